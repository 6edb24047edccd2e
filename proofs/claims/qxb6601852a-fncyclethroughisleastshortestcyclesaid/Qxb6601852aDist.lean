/-
  zzDistTo: the distances to a vertex.
-/
import Derived.Test.Qxb6601852aRev
namespace Go.Proofs.Qxb6601852a
open Go.ChangeShapes Go.WideShapes Go.ChangeAt Go.RowKit

namespace Gr
theorem BF.less {E : Nat → Nat → Prop} {s m i : Nat} {q l : Nat → Nat} {C C' : Nat → Prop} (h : BF E s m i q l C) (hC : ∀ x, C' x → C x) : BF E s m i q l C' :=
  ⟨h.m1, h.im, h.q0, h.l0, h.inj, h.sorted, h.near, h.done, fun hi w hw => h.cur hi w (hC w hw), h.par⟩

def En (L : Nat → Nat) (e : Nat → Nat → Nat) (n u w : Nat) : Prop := u < n ∧ Ed L e u w
theorem W_En {L : Nat → Nat} {e : Nat → Nat → Nat} {n : Nat} (hW : WF L e n) : ∀ {c v s : Nat}, v < n → W (Ed L e) c v s → W (En L e n) c v s
  | 0, _, _, _, h => h
  | _ + 1, v, _, hv, ⟨x, ⟨k, hk, hx⟩, h2⟩ => ⟨x, ⟨hv, k, hk, hx⟩, W_En hW (by rw [← hx]; exact hW.lt v hv k hk) h2⟩
theorem W_Ed {L : Nat → Nat} {e : Nat → Nat → Nat} {n : Nat} : ∀ {c v s : Nat}, W (En L e n) c v s → W (Ed L e) c v s
  | 0, _, _, h => h
  | _ + 1, _, _, ⟨x, h1, h2⟩ => ⟨x, h1.2, W_Ed h2⟩
theorem IsDist.plain {L : Nat → Nat} {e : Nat → Nat → Nat} {n s : Nat} {d : Nat → Int} (hW : WF L e n) (h : IsDist (En L e n) n s d) : IsDist (Ed L e) n s d := by
  intro v hv
  rcases h v hv with ⟨h1, h2⟩ | ⟨c, h1, h2, h3⟩
  · exact Or.inl ⟨h1, fun c hc => h2 c (W_En hW hv hc)⟩
  · exact Or.inr ⟨c, h1, W_Ed h2, fun c' hc => h3 c' (W_En hW hv hc)⟩

/-- The search backward: the queue q of m, i done, of the next k entries seen; l levels; d what the row holds. -/
structure DB (L : Nat → Nat) (e : Nat → Nat → Nat) (n s m i k : Nat) (M : Nat → Nat) (F : Nat → Nat → Nat) (q l : Nat → Nat) (d : Nat → Int) : Prop where
  bf : BF (fun a b => En L e n b a) s m i q l (fun x => ∃ k', k' < k ∧ F (q i) k' = x)
  link : ∀ v, v < n → (d v = -1 ∧ ∀ b, b < m → q b ≠ v) ∨ (d v = l v ∧ ∃ b, b < m ∧ q b = v)
  qn : ∀ a, a < m → q a < n
  cnt : sumTo n (fun v => if d v < 0 then 1 else 0) + m = n
  lb : ∀ a, a < m → l (q a) ≤ a

theorem sumTo_one (n : Nat) : sumTo n (fun _ => 1) = n := by
  induction n with
  | zero => rfl
  | succ n ih => rw [sumTo, ih]

section
variable {L : Nat → Nat} {e : Nat → Nat → Nat} {n s m i k : Nat} {M : Nat → Nat} {F : Nat → Nat → Nat} {q l : Nat → Nat} {d : Nat → Int}
theorem DB.start (hs : s < n) (hq : q 0 = s) : DB L e n s 1 0 0 M F q (fun _ => 0) (upd (fun _ => -1) s 0) := by
  refine ⟨(BF.start q _ hq rfl).less (fun x ⟨k', h, _⟩ => absurd h (by omega)), fun v hv => ?_, fun a ha => by rw [show a = 0 by omega, hq]; exact hs, ?_, fun a ha => by omega⟩
  · by_cases e0 : v = s
    · subst e0; exact Or.inr ⟨upd_same _ _ _, 0, by omega, hq⟩
    · exact Or.inl ⟨upd_other _ _ e0, fun b hb => by rw [show b = 0 by omega, hq]; exact fun h => e0 h.symm⟩
  · have := sumTo_change (n := n) (f := fun v => if upd (fun _ => (-1 : Int)) s 0 v < 0 then 1 else 0) (g := fun _ => 1) hs (fun x _ hx => by simp [upd_other _ _ hx])
    rw [sumTo_one] at this
    simp [upd_same] at this
    omega
theorem DB.seen (h : DB L e n s m i k M F q l d) {w : Nat} (hw : w < n) (hd : 0 ≤ d w) : ∃ b, b < m ∧ q b = w := by
  rcases h.link w hw with ⟨h1, _⟩ | ⟨_, h1⟩
  · omega
  · exact h1
theorem DB.fresh (h : DB L e n s m i k M F q l d) {w : Nat} (hw : w < n) (hd : d w < 0) : ∀ b, b < m → q b ≠ w := by
  rcases h.link w hw with ⟨_, h1⟩ | ⟨h1, _⟩
  · exact h1
  · omega
theorem DB.skip (h : DB L e n s m i k M F q l d) {w : Nat} (hw : w < n) (hd : 0 ≤ d w) (hF : F (q i) k = w) : DB L e n s m i (k + 1) M F q l d := by
  obtain ⟨b, hb, hqb⟩ := h.seen hw hd
  refine ⟨(h.bf.skip hb hqb).less (fun x ⟨k', h1, h2⟩ => ?_), h.link, h.qn, h.cnt, h.lb⟩
  by_cases e0 : k' = k
  · subst e0; exact Or.inr (h2.symm.trans hF)
  · exact Or.inl ⟨k', by omega, h2⟩
theorem DB.push (h : DB L e n s m i k M F q l d) (hi : i < m) {w : Nat} (hw : w < n) (hd : d w < 0) (hF : F (q i) k = w) (he : Ed L e w (q i)) :
    DB L e n s (m + 1) i (k + 1) M F (upd q m w) (upd l w (l (q i) + 1)) (upd d w (l (q i) + 1)) := by
  have hnew := h.fresh hw hd
  have hq : ∀ a, a < m → upd q m w a = q a := fun a ha => upd_other _ _ (by omega)
  refine ⟨(h.bf.push hi ⟨hw, he⟩ hnew).less (fun x ⟨k', h1, h2⟩ => ?_), fun v hv => ?_, fun a ha => ?_, ?_, fun a ha => ?_⟩
  · rw [hq i hi] at h2
    by_cases e0 : k' = k
    · subst e0; exact Or.inr (h2.symm.trans hF)
    · exact Or.inl ⟨k', by omega, h2⟩
  · by_cases e0 : v = w
    · subst e0; right; rw [upd_same, upd_same]; exact ⟨by omega, m, by omega, upd_same _ _ _⟩
    · rw [upd_other _ _ e0, upd_other _ _ e0]
      rcases h.link v hv with ⟨h1, h2⟩ | ⟨h1, b, h2, h3⟩
      · refine Or.inl ⟨h1, fun b hb => ?_⟩
        by_cases e1 : b = m
        · subst e1; rw [upd_same]; exact fun h => e0 h.symm
        · rw [hq b (by omega)]; exact h2 b (by omega)
      · exact Or.inr ⟨h1, b, by omega, by rw [hq b h2]; exact h3⟩
  · by_cases e1 : a = m
    · subst e1; rw [upd_same]; exact hw
    · rw [hq a (by omega)]; exact h.qn a (by omega)
  · have h1 := h.cnt
    have := sumTo_change (n := n) (f := fun v => if upd d w (l (q i) + 1) v < 0 then 1 else 0) (g := fun v => if d v < 0 then 1 else 0) hw (fun x _ hx => by simp [upd_other _ _ hx])
    simp only [upd_same, hd, if_true] at this
    rw [if_neg (by omega)] at this
    omega
  · by_cases e1 : a = m
    · subst e1
      rw [upd_same, upd_same]
      have := h.lb i hi
      omega
    · rw [hq a (by omega), upd_other _ _ (hnew a (by omega))]; exact h.lb a (by omega)
theorem DB.next (h : DB L e n s m i k M F q l d) (hi : i < m) (hk : k = M (q i)) (hR : ∀ x, (∃ j, j < M (q i) ∧ F (q i) j = x) ↔ (x < n ∧ Ed L e x (q i))) : DB L e n s m (i + 1) 0 M F q l d := by
  subst hk
  exact ⟨(h.bf.next hi (fun w hw => (hR w).2 hw)).less (fun x ⟨k', h1, _⟩ => absurd h1 (by omega)), h.link, h.qn, h.cnt, h.lb⟩
theorem DB.dist (h : DB L e n s m i k M F q l d) (hi : i < m) : d (q i) = l (q i) := by
  rcases h.link (q i) (h.qn i hi) with ⟨_, h1⟩ | ⟨h1, _⟩
  · exact absurd rfl (h1 i hi)
  · exact h1
theorem DB.final (h : DB L e n s m i k M F q l d) (hW : WF L e n) (hi : i = m) : IsDist (Ed L e) n s d := by
  subst hi
  exact IsDist.plain hW (isDist_of (E := En L e n) h.bf h.link)
theorem DB.bound (h : DB L e n s m i k M F q l d) {v : Nat} (hv : v < n) : -1 ≤ d v ∧ d v < n := by
  have := h.cnt
  rcases h.link v hv with ⟨h1, _⟩ | ⟨h1, b, h2, h3⟩
  · omega
  · have := h.lb b h2
    rw [h3] at this
    omega
end
end Gr

def DistPost (L : Nat → Nat) (e : Nat → Nat → Nat) (n s : Nat) (w : World) (en : Ending) (w' : World) : Prop :=
  ∃ d : Nat → Int, en = .returned (.slice (some ⟨w.heap.size, 0, none⟩) n n) ∧ w'.rowIs w.heap.size 3 n (fun v => .int .i64 (d v)) ∧ Gr.IsDist (Gr.Ed L e) n s d ∧ (∀ v, v < n → -1 ≤ d v ∧ d v < n) ∧ Below w.heap.size w w'

/-- The queue and the row in memory. -/
structure DM (w0 w : World) (n m cap g : Nat) (q : Nat → Nat) (d : Nat → Int) : Prop where
  row : w.rowIs w0.heap.size 3 n (fun v => .int .i64 (d v))
  vec : Vec w (w0.heap.size + 1) (some ⟨g, 0, none⟩) m cap (fun i => (q i : Int))
  bel : Below w0.heap.size w0 w

theorem row_upd {w : World} {b n x : Nat} {d : Nat → Int} (h : w.rowIs b 3 n (fun v => .int .i64 (d v))) (y : Int) : (w.setCell ⟨b, x, none⟩ (.int .i64 y)).rowIs b 3 n (fun v => .int .i64 (Gr.upd d x y v)) :=
  (h.set x (.int .i64 y)).congr (fun v _ => by
    by_cases e0 : v = x
    · subst e0; simp [Gr.upd_same]
    · simp [e0, Gr.upd_other])

set_option maxRecDepth 100000 in
set_option maxHeartbeats 4000000 in
theorem dist_any {w : World} {b2 n s : Nat} {G M CP : Nat → Nat} {F : Nat → Nat → Nat} {L : Nat → Nat} {e : Nat → Nat → Nat} (hG : Gm w (some ⟨b2, 0, none⟩) b2 n (fun r => some ⟨G r, 0, none⟩) M CP F) (hR : Hid (IsRev L e n M F)) (hW : Gr.WF L e n) (hn : n ≤ 4096) (hs : s < n) :
    Calls Try.prog 19 #[.slice (some ⟨b2, 0, none⟩) n n, .int .i64 s] w (DistPost L e n s w) := by
  have hmk := run_make_row' (P := Try.prog) 28 3 (.int .i64 0) 8 Try.underlying28 Try.info3 rfl .i64 .i64 n (by omega) (by omega)
  have hmk2 := run_make_room (P := Try.prog) 28 3 (.int .i64 0) 8 Try.underlying28 Try.info3 rfl .i64 .i64 n (by omega) (by omega)
  go_enter Try.func19, Try.ntmps19
  go_wp2_with fail
  have hrow0 := World.rowIs_made w (.int .i64 0) n 3
  go_loopg [7] n (fun g i wr => ∃ (v : Nat), v ≤ n ∧ i = .int .i64 v ∧ g = n - v ∧ wr.rowIs w.heap.size 3 n (fun x => if x < v then .int .i64 (-1) else .int .i64 0) ∧ Below w.heap.size w wr ∧ wr.heap.size = w.heap.size + 1)
  case atStart => exact ⟨0, Nat.zero_le _, rfl, rfl, hrow0.congr (by simp), (Below.refl _ _).alloc (Nat.le_refl _) _, by simp⟩
  case round =>
    obtain ⟨v, hv, rfl, hg, hrow, hbel, hsz⟩ := hrel
    clear hrow0
    by_cases hlt : (v : Int) < n
    · have hv' : v < n := by omega
      have c1 := hrow.cell hv'
      simp only [Nat.lt_irrefl, if_false] at c1
      have c2 := hrow.frozen v
      have R := clone_step (g := fun _ => .int .i64 (-1)) hrow
      go_wp2
      go_roundg (n - (v + 1))
      case measure => omega
      case rel => exact ⟨v + 1, by omega, by go_num, rfl, R, hbel.setCell (Nat.le_refl _) _, by simpa [World.setCell] using hsz⟩
    · obtain rfl : v = n := by omega
      have hrow1 : wr.rowIs w.heap.size 3 v (fun x => .int .i64 ((fun _ => (-1 : Int)) x)) := hrow.congr (fun i hi => by simp [hi])
      clear hrow
      have c1 := hrow1.cell hs
      have c2 := hrow1.frozen s
      have hrow2 := row_upd (x := s) hrow1 0
      have hbel2 : Below w.heap.size w (wr.setCell ⟨w.heap.size, s, none⟩ (.int .i64 0)) := hbel.setCell (Nat.le_refl _) _
      have hsz2 : (wr.setCell ⟨w.heap.size, s, none⟩ (.int .i64 0)).heap.size = w.heap.size + 1 := by simpa [World.setCell] using hsz
      have i1 : (s : Int) < v := by omega
      go_upto_region 8 with fail
      clear hmk c1 c2 hrow1 hbel hsz
      generalize wr.setCell ⟨w.heap.size, s, none⟩ (.int .i64 0) = w2 at hrow2 hbel2 hsz2 ⊢
      have hv3 := Vec.room w2 (w.heap.size + 1) v (by omega) (by omega) (fun _ => 0)
      rw [hsz2] at hv3
      have hrow3 := hrow2.alloc (.cells (madeCells #[.int .i64 0] v) 3)
      have hbel3 : Below w.heap.size w (w2.alloc (.cells (madeCells #[.int .i64 0] v) 3)) := hbel2.alloc (by omega) _
      have hsz3 : (w2.alloc (.cells (madeCells #[.int .i64 0] v) 3)).heap.size = w.heap.size + 2 := by simp [hsz2]
      go_upto_region 9 with fail
      clear hmk2 hrow2 hbel2
      generalize w2.alloc (.cells (madeCells #[.int .i64 0] v) 3) = w3 at hrow3 hbel3 hsz3 hv3 ⊢
      go_wp2_with (at_builtin; refine push_law (by rfl) _ _ (by rfl) hv3 s (by rfl) _ hsz3 (by rfl) (by omega) (by omega) ?_)
      intro g0 cap0 w4 hp
      have hDM : DM w w4 v 1 cap0 g0 (fun _ => s) (Gr.upd (fun _ => -1) s 0) :=
        ⟨rowIs_of hrow3 (hp.block _ (by omega) (fun e0 => by simp [ob] at e0)), hp.vec.congr (fun i hi => by rw [show i = 0 by omega, Gr.upd_same]), hbel3.trans ((hp.below (fun k hk => by simp [ob] at hk; omega) (by omega)).mono (by omega))⟩
      have hDB : Hid (Gr.DB L e v s 1 0 0 M F (fun _ => s) (fun _ => 0) (Gr.upd (fun _ => -1) s 0)) := Gr.DB.start hs rfl
      clear hp hv3 hrow3 hbel3 hsz3 hsz2
      go_wp2_with fail
      go_loopg [8, 9] v (fun gm X Y wr => ∃ (m i cap g : Nat) (q l : Nat → Nat) (d : Nat → Int), X = .slice (some ⟨g, 0, none⟩) m cap ∧ Y = .int .i64 i ∧ gm = v - i ∧ i ≤ m ∧ m ≤ v ∧ DM w wr v m cap g q d ∧ Hid (Gr.DB L e v s m i 0 M F q l d))
      case atStart => exact ⟨1, 0, cap0, g0, _, _, _, rfl, rfl, rfl, by omega, by omega, hDM, hDB⟩
      case round =>
        clear hDM hDB
        obtain ⟨m, i, cap, gb, q, l, d, rfl, rfl, hgm, him, hmv, hDM, hDB⟩ := hrel
        by_cases hlt : (i : Int) < m
        · have hi' : i < m := by omega
          have c1 := hDM.vec.cell hi'
          have hu := hDB.out.qn i hi'
          obtain ⟨-, hMu⟩ : True ∧ M (q i) ≤ 1073741824 := ⟨trivial, (hR.out (q i) hu).1⟩
          have hG1 := hG.later hDM.bel
          go_upto_region 14 with fail
          clear c1 hG1
          have iu : ((q i : Nat) : Int) < v := by omega
          generalize hqi : q i = u at hu hMu iu ⊢
          have eq0 : Hid (q i = u) := hqi
          clear hqi
          go_wp2_with fail
          go_loopg [8, 11] (M u) (fun gm X Y wr => ∃ (m k cap g : Nat) (q l : Nat → Nat) (d : Nat → Int), X = .slice (some ⟨g, 0, none⟩) m cap ∧ Y = .int .i64 k ∧ gm = M u - k ∧ i < m ∧ m ≤ v ∧ k ≤ M u ∧ Hid (q i = u) ∧ DM w wr v m cap g q d ∧ Hid (Gr.DB L e v s m i k M F q l d))
          case atStart => exact ⟨m, 0, cap, gb, q, l, d, rfl, rfl, rfl, hi', hmv, Nat.zero_le _, eq0, hDM, hDB⟩
          case round =>
            clear hDM hDB eq0
            obtain ⟨m, k, cap, gb, q, l, d, rfl, rfl, hgk, hi', hmv, hk, hqu, hDM, hDB⟩ := hrel
            have hG1 := hG.later hDM.bel
            obtain ⟨-, hB, hc0⟩ := hG1.row u hu
            by_cases hlt' : (k : Int) < M u
            · have hk' : k < M u := by omega
              obtain ⟨b, hc1, hc2⟩ := hG1.at hu hk'
              obtain ⟨hpn, hpe⟩ := ((hR.out u hu).2 (F u k)).1 ⟨k, hk', rfl⟩
              have c3 := hDM.row.cell hpn
              have ip : ((F u k : Nat) : Int) < v := by omega
              by_cases hneg : d (F u k) < 0
              · have hdu : Hid (d u = l u) := by have := hDB.out.dist hi'; rwa [hqu.out] at this
                have hDB2 : Hid (Gr.DB L e v s (m + 1) i (k + 1) M F (Gr.upd q m (F u k)) (Gr.upd l (F u k) (l u + 1)) (Gr.upd d (F u k) (d u + 1))) := by
                  have := hDB.out.push hi' hpn hneg (by rw [hqu.out]) (by rw [hqu.out]; exact hpe)
                  rw [hqu.out, ← hdu.out] at this
                  exact this
                have hmm := hDB2.out.cnt
                have hbd := hDB.out.bound hu
                have c4 := hDM.row.cell hu
                have c5 := hDM.row.frozen (F u k)
                have r2 := row_upd (x := F u k) hDM.row (d u + 1)
                have v2 : Vec (wr.setCell ⟨w.heap.size, F u k, none⟩ (.int .i64 (d u + 1))) (w.heap.size + 1) (some ⟨gb, 0, none⟩) m cap (fun i => (q i : Int)) := hDM.vec.of (fun x hx => Below.heap_setCell _ _ _ _ (by have := (hDM.vec.lt x hx).1; simp only; omega))
                have b3 : Below w.heap.size w (wr.setCell ⟨w.heap.size, F u k, none⟩ (.int .i64 (d u + 1))) := hDM.bel.setCell (Nat.le_refl _) _
                have i3 : w.heap.size + 1 ≤ (wr.setCell ⟨w.heap.size, F u k, none⟩ (.int .i64 (d u + 1))).heap.size := by have := hDM.row.lt; simp [World.setCell]; omega
                clear hc0 hDB hG1 hdu
                go_upto_region 20 with fail
                clear hDM c3 c4 c5 hc1 hc2 hneg
                generalize wr.setCell ⟨w.heap.size, F u k, none⟩ (.int .i64 (d u + 1)) = w2 at r2 v2 b3 i3 ⊢
                go_wp2_with (at_builtin; refine push_law (by rfl) _ _ (by rfl) v2 (F u k) (by rfl) _ rfl (by rfl) (by omega) (by omega) ?_)
                intro g1 cap1 w5 hp
                have hDM2 : DM w w5 v (m + 1) cap1 g1 (Gr.upd q m (F u k)) (Gr.upd d (F u k) (d u + 1)) :=
                  ⟨rowIs_of r2 (hp.block _ (by omega) (fun e0 => by have := (v2.lt _ e0).1; omega)), hp.vec.congr (fun j hj => by
                    by_cases e0 : j = m
                    · subst e0; rw [Gr.upd_same, Gr.upd_same]
                    · rw [Gr.upd_other _ _ e0, Gr.upd_other _ _ e0]), b3.trans ((hp.below (fun x hx => (v2.lt x hx).1) (by omega)).mono (by omega))⟩
                have hqu2 : Hid (Gr.upd q m (F u k) i = u) := (Gr.upd_other _ _ (by omega)).trans hqu.out
                clear hp r2 v2 b3 i3
                go_wp2
                go_roundg (M u - (k + 1))
                case measure => omega
                case rel => exact ⟨m + 1, k + 1, cap1, g1, _, _, _, rfl, by go_num, rfl, by omega, by omega, by omega, hqu2, hDM2, hDB2⟩
              · have hDB2 : Hid (Gr.DB L e v s m i (k + 1) M F q l d) := hDB.out.skip hpn (by omega) (by rw [hqu.out])
                clear hc0 hDB
                go_wp2
                go_roundg (M u - (k + 1))
                case measure => omega
                case rel => exact ⟨m, k + 1, cap, gb, q, l, d, rfl, by go_num, rfl, hi', hmv, by omega, hqu, hDM, hDB2⟩
            · have hDB2 : Hid (Gr.DB L e v s m (i + 1) 0 M F q l d) := hDB.out.next hi' (by rw [hqu.out]; omega) (by rw [hqu.out]; exact (hR.out u hu).2)
              clear hDB
              go_wp2
              go_roundg (v - (i + 1))
              case measure => omega
              case rel => exact ⟨m, i + 1, cap, gb, q, l, d, rfl, by go_num, rfl, by omega, hmv, hDM, hDB2⟩
        · have him2 : i = m := by omega
          go_wp2
          go_ret
          exact ⟨d, rfl, hDM.row, hDB.out.final hW him2, fun x hx => hDB.out.bound hx, hDM.bel⟩
end Go.Proofs.Qxb6601852a

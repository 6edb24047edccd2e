/-
  cycleThrough: the search by breadth walked.
-/
import Derived.Test.Qxb6601852aLib
namespace Go.Proofs.Qxb6601852a
open Go.ChangeShapes Go.WideShapes Go.ChangeAt Go.RowKit

namespace Gr
theorem GI.less {L : Nat → Nat} {e : Nat → Nat → Nat} {n : Nat} {d : Nat → Int} {s N : Nat} {c : Nat → Nat} {m i : Nat} {q l : Nat → Nat} {C C' : Nat → Prop} {fr : Nat → Int} (h : GI L e n d s N c m i q l C fr) (hC : ∀ x, C' x → C x) : GI L e n d s N c m i q l C' fr :=
  ⟨h.bf.less hC, h.qn, h.out, h.inn, h.g1, h.g2, h.ns⟩
/-- The number of vertices without a way back, and the queue's length. -/
def Cnt (n m : Nat) (fr : Nat → Int) : Prop := sumTo n (fun v => if fr v < 0 then 1 else 0) + m = n + 1
theorem Cnt.start (n : Nat) : Cnt n 1 (fun _ => -1) := by
  unfold Cnt
  simp only [show ((-1 : Int) < 0) from by decide, if_true]
  rw [sumTo_one]
theorem Cnt.push {n m : Nat} {fr : Nat → Int} (h : Cnt n m fr) {w : Nat} (hw : w < n) (h0 : fr w < 0) (x : Nat) : Cnt n (m + 1) (upd fr w x) := by
  unfold Cnt at h ⊢
  have := sumTo_change (n := n) (f := fun v => if upd fr w x v < 0 then 1 else 0) (g := fun v => if fr v < 0 then 1 else 0) hw (fun k _ hk => by simp only [upd_other _ _ hk])
  simp only [upd_same, h0, if_true] at this
  rw [if_neg (by omega)] at this
  omega
end Gr

def CycPost (N : Nat) (c : Nat → Nat) (w : World) (en : Ending) (w' : World) : Prop :=
  ∃ g cap, en = .returned (.slice (some ⟨g, 0, none⟩) (N + 1) cap) ∧ (∀ k, k < N + 1 → w'.cell? ⟨g, k, none⟩ = some (.int .i64 (c k))) ∧ Below w.heap.size w w'

set_option maxRecDepth 100000 in
set_option maxHeartbeats 8000000 in
theorem cyc_any {w : World} {B n : Nat} {A : Nat → Option Addr} {L C : Nat → Nat} {e : Nat → Nat → Nat} (hG : Gm w (some ⟨B, 0, none⟩) B n A L C e) (hW : Hid (Gr.WF L e n)) (hn : n ≤ 4096) (hL : Hid (∀ r, r < n → L r ≤ 131072))
    {d : Nat → Int} {s N : Nat} {c : Nat → Nat} (hs : s < n) (hOC : Hid (Gr.OC L e s)) (hno : Hid (∀ v, v < s → ¬ Gr.OC L e v)) (hc : Hid (Gr.Ch L e n d s N c)) (hd : Hid (Gr.IsDist (Gr.Ed L e) n s d)) (hN : Hid (Gr.Least L e s N)) (hN2 : 2 ≤ N) (hNn : N ≤ n)
    (hon : Hid (Calls Try.prog 29 #[.slice (some ⟨B, 0, none⟩) n n] w (OnPost L e n w))) :
    Calls Try.prog 30 #[.slice (some ⟨B, 0, none⟩) n n] w (CycPost N c w) := by
  have hmk := run_make_row' (P := Try.prog) 28 3 (.int .i64 0) 8 Try.underlying28 Try.info3 rfl .i64 .i64 n (by omega) (by omega)
  go_enter Try.func30, Try.ntmps30
  go_wp2_with fail
  refine hon.out.mono ?_
  rintro en w1 ⟨res, rfl, hres, hro, hb1⟩
  have r1 : Hid (res s = true) := (hro s hs).2 hOC.out
  have r2 : Hid (∀ v, v < s → res v = false) := fun v hv => by
    cases hr : res v with
    | false => rfl
    | true => exact absurd ((hro v (by omega)).1 hr) (hno.out v hv)
  clear hon hro
  go_wp2_with fail
  refine (index_any hres hn hs r1 r2).mono ?_
  rintro en w1 ⟨rfl, rfl⟩
  clear r1 r2 hres
  go_wp2_with fail
  have hG1 := hG.later hb1
  have hrow0 := World.rowIs_made w1 (.int .i64 0) n 3
  clear hG hmk
  go_loopg [21] n (fun g i wr => ∃ (v : Nat), v ≤ n ∧ i = .int .i64 v ∧ g = n - v ∧ wr.rowIs w1.heap.size 3 n (fun x => if x < v then .int .i64 (-1) else .int .i64 0) ∧ Below w1.heap.size w1 wr ∧ wr.heap.size = w1.heap.size + 1)
  case atStart => exact ⟨0, Nat.zero_le _, rfl, rfl, hrow0.congr (by simp), (Below.refl _ _).alloc (Nat.le_refl _) _, by simp⟩
  case round =>
    obtain ⟨v, hv, rfl, hg, hrow, hbel, hsz⟩ := hrel
    clear hrow0
    by_cases hlt : (v : Int) < n
    · have hv' : v < n := by omega
      have c1 := hrow.cell hv'
      simp only [Nat.lt_irrefl, if_false] at c1
      have c2 := hrow.frozen v
      have R := clone_step (g := fun _ => .int .i64 (-1)) hrow
      go_wp2
      go_roundg (n - (v + 1))
      case measure => omega
      case rel => exact ⟨v + 1, by omega, by go_num, rfl, R, hbel.setCell (Nat.le_refl _) _, by simpa [World.setCell] using hsz⟩
    · obtain rfl : v = n := by omega
      have hDM : DM w1 (wr.alloc (.cells #[.int .i64 s] 3)) v 1 1 wr.heap.size (fun _ => s) (fun _ => -1) :=
        ⟨(hrow.congr (fun i hi => by simp [hi])).alloc _, Vec.one wr _ (by omega) s, hbel.alloc (by omega) _⟩
      have hGI : Hid (Gr.GI L e v d s N c 1 0 (fun _ => s) (fun _ => 0) (fun _ => False) (fun _ => -1)) := Gr.GI.start _ rfl hs hc.out hd.out
      have hcnt : Hid (Gr.Cnt v 1 (fun _ => -1)) := Gr.Cnt.start v
      clear hrow hbel
      go_wp2_with fail
      go_loopg [6, 7] (v + 1) (fun gm X Y wr => ∃ (m i cap g : Nat) (q l : Nat → Nat) (fr : Nat → Int), X = .slice (some ⟨g, 0, none⟩) m cap ∧ Y = .int .i64 i ∧ gm = v + 1 - i ∧ DM w1 wr v m cap g q fr ∧ Hid (Gr.GI L e v d s N c m i q l (fun _ => False) fr) ∧ Hid (Gr.Cnt v m fr))
      case atStart => exact ⟨1, 0, 1, _, _, _, _, by rw [hsz], rfl, rfl, hDM, hGI, hcnt⟩
      case round =>
        clear hDM hGI hcnt hsz
        obtain ⟨m, i, cap, gb, q, l, fr, rfl, rfl, hgm, hDM, hGI, hcnt⟩ := hrel
        have hi' : i < m := hGI.out.more hc.out hd.out (by omega)
        have hmv : m ≤ v + 1 := by have := hcnt.out; unfold Gr.Cnt at this; omega
        have hlt : (i : Int) < m := by omega
        have c1 := hDM.vec.cell hi'
        have hu := hGI.out.qn i hi'
        have hG2 := hG1.later hDM.bel
        obtain ⟨u, hqi⟩ : ∃ u, Hid (q i = u) := ⟨_, rfl⟩
        rw [hqi.out] at c1 hu
        have hLu := hL.out u hu
        obtain ⟨-, -, hc0⟩ := hG2.row u hu
        have iu : (u : Int) < v := by omega
        have hGI2 : Hid (Gr.GI L e v d s N c m i q l (fun x => ∃ k', k' < 0 ∧ e u k' = x) fr) := hGI.out.less (fun x ⟨k', h1, _⟩ => absurd h1 (by omega))
        obtain ⟨au, hau⟩ : ∃ au, Hid (A u = au) := ⟨_, rfl⟩
        rw [hau.out] at hc0
        clear hGI hG2
        go_wp2_with fail
        clear c1 hc0
        go_loopg [6, 41] (L u) (fun gm X Y wr => ∃ (m k cap g : Nat) (q l : Nat → Nat) (fr : Nat → Int), X = .slice (some ⟨g, 0, none⟩) m cap ∧ Y = .int .i64 k ∧ gm = L u - k ∧ i < m ∧ k ≤ L u ∧ Hid (q i = u) ∧ DM w1 wr v m cap g q fr ∧ Hid (Gr.GI L e v d s N c m i q l (fun x => ∃ k', k' < k ∧ e u k' = x) fr) ∧ Hid (Gr.Cnt v m fr) ∧ Hid (∀ k', k' < k → e u k' ≠ s))
        case atStart => exact ⟨m, 0, cap, gb, q, l, fr, rfl, rfl, rfl, hi', Nat.zero_le _, hqi, hDM, hGI2, hcnt, fun k' h => absurd h (by omega)⟩
        case round =>
          clear hDM hGI2 hcnt hqi hmv hlt hi'
          obtain ⟨m, k, cap, gb, q, l, fr, rfl, rfl, hgk, hi', hk, hqi, hDM, hGI, hcnt, hns⟩ := hrel
          have hmv : m ≤ v + 1 := by have := hcnt.out; unfold Gr.Cnt at this; omega
          by_cases hlt' : (k : Int) < L u
          · have hk' : k < L u := by omega
            have hG2 := hG1.later hDM.bel
            obtain ⟨b, hA, -, hc2⟩ := hG2.ent u hu k hk'
            rw [hau.out] at hA
            subst hA
            have hxn := hW.out.lt u hu k hk'
            obtain ⟨x, hxe⟩ : ∃ x, Hid (e u k = x) := ⟨_, rfl⟩
            rw [hxe.out] at hc2 hxn
            have ix : (x : Int) < v := by omega
            have c3 := hDM.row.cell hxn
            have c4 := hDM.row.frozen x
            by_cases hxs : x = s
            · have hxs' : ((x : Int) == s) = true := by simp; omega
              have hus : u ≠ s := fun e0 => hW.out.ne u hu k hk' (by rw [hxe.out, hxs, e0])
              obtain ⟨hqc0, hfr0⟩ := hGI.out.meets hc.out hd.out hN.out hN2 hi' ⟨k, by rw [hqi.out]; exact hk', by rw [hqi.out, hxe.out, hxs]⟩ (by rw [hqi.out]; exact hus)
              rw [hqi.out] at hqc0
              have hqc : Hid (u = c (N - 1)) := hqc0
              have hfr : Hid (∀ k, 1 ≤ k → k < N → fr (c k) = c (k - 1)) := hfr0
              clear hqc0 hfr0 hus
              have hV0 := Vec.one wr wr.heap.size (Nat.le_refl _) s
              have hR0 := hDM.row.alloc (.cells #[.int .i64 s] 3)
              have hB0 : Below wr.heap.size wr (wr.alloc (.cells #[.int .i64 s] 3)) := (Below.refl _ _).alloc (Nat.le_refl _) _
              have hBr := hDM.bel
              have hrl := hDM.row.lt
              clear hGI hcnt hns hG2 hDM c4
              go_wp2_with fail
              clear c3 hc2
              obtain ⟨wq, hwq⟩ : ∃ wq : World, wq = wr := ⟨wr, rfl⟩
              subst hwq
              go_loopg [11, 12] N (fun gm X Y wr => ∃ (j g cap : Nat), j < N ∧ X = .slice (some ⟨g, 0, none⟩) (j + 1) cap ∧ Y = .int .i64 (c (N - 1 - j)) ∧ gm = N - j ∧ Vec wr wq.heap.size (some ⟨g, 0, none⟩) (j + 1) cap (fun t => if t = 0 then (s : Int) else (c (N - t) : Nat)) ∧ wr.rowIs w1.heap.size 3 v (fun y => .int .i64 (fr y)) ∧ Below wq.heap.size wq wr)
              case atStart => exact ⟨0, wq.heap.size, 1, by omega, rfl, by rw [hqc.out]; rfl, rfl, hV0.congr (fun t ht => by rw [if_pos (by omega)]), hR0, hB0⟩
              case round =>
                clear hV0 hR0 hB0
                obtain ⟨j, gc, capc, hj, rfl, rfl, hgj, hV, hR, hB⟩ := hrel
                have hcn := hc.out.lt (N - 1 - j) (by omega)
                have ic : ((c (N - 1 - j) : Nat) : Int) < v := by omega
                have hBs := hB.size
                by_cases hk0 : N - 1 - j = 0
                · have hcs : c (N - 1 - j) = s := by rw [hk0, hc.out.c0]
                  have hcs' : ((c (N - 1 - j) : Int) != s) = false := by simp; omega
                  have hk1 : Hid (N - 1 - j = 0) := hk0
                  have hjN : Hid (j + 1 = N) := by show _ = _; omega
                  clear hcs hk0
                  go_wp2_with (at_builtin; refine push_law (by rfl) _ _ (by rfl) hV s (by rfl) _ rfl (by rfl) (by omega) (by omega) ?_)
                  intro g1 cap1 w5 hp
                  have hV3 := hp.vec
                  have hB5 : Below wq.heap.size wq w5 := hB.trans (hp.below (fun y hy => (hV.lt y hy).1) (by omega))
                  clear hp hV hR hB
                  go_wp2_with fail
                  refine (reverse_any hV3 (by omega) (by omega)).mono ?_
                  rintro en w6 ⟨rfl, hV4, hB6⟩
                  go_wp2
                  go_ret
                  have hjN := hjN.out
                  have hV5 : Vec w6 wq.heap.size (some ⟨g1, 0, none⟩) (N + 1) cap1 (fun t => ((c t : Nat) : Int)) := by
                    rw [hjN] at hV4
                    refine hV4.congr (fun t ht => ?_)
                    by_cases e0 : t = 0
                    · subst e0
                      rw [show N + 1 - 1 - 0 = N by omega, Gr.upd_same, hc.out.c0]
                    · rw [Gr.upd_other _ _ (by omega)]
                      by_cases e1 : t = N
                      · subst e1
                        rw [if_pos (by omega), hc.out.last hd.out (by omega)]
                      · rw [if_neg (by omega), show N - (N + 1 - 1 - t) = t by omega]
                  refine ⟨g1, cap1, by rw [hjN]; rfl, fun t ht => hV5.cell ht, ?_⟩
                  have hB7 : Below w1.heap.size w1 w6 := hBr.trans ((hB5.trans hB6).mono (by omega))
                  exact hb1.trans (hB7.mono hb1.size)
                · have hcs : c (N - 1 - j) ≠ s := hc.out.ne hd.out hs (by omega) (by omega)
                  have hcs' : ((c (N - 1 - j) : Int) != s) = true := by simp; omega
                  clear hcs
                  go_wp2_with (at_builtin; refine push_law (by rfl) _ _ (by rfl) hV (c (N - 1 - j)) (by rfl) _ rfl (by rfl) (by omega) (by omega) ?_)
                  intro g1 cap1 w5 hp
                  have hR5 : w5.rowIs w1.heap.size 3 v (fun y => .int .i64 (fr y)) := rowIs_of hR (hp.block _ (by omega) (fun e0 => by have := (hV.lt _ e0).1; omega))
                  have c5 := hR5.cell hcn
                  rw [hfr.out (N - 1 - j) (by omega) (by omega)] at c5
                  have hB5 : Below wq.heap.size wq w5 := hB.trans (hp.below (fun y hy => (hV.lt y hy).1) (by omega))
                  have hV5 : Vec w5 wq.heap.size (some ⟨g1, 0, none⟩) (j + 1 + 1) cap1 (fun t => if t = 0 then (s : Int) else (c (N - t) : Nat)) := hp.vec.congr (fun t ht => by
                    by_cases e0 : t = j + 1
                    · subst e0
                      rw [Gr.upd_same, if_neg (by omega), show N - (j + 1) = N - 1 - j by omega]
                    · rw [Gr.upd_other _ _ e0])
                  clear hp hV hR hB
                  go_wp2
                  go_roundg (N - (j + 1))
                  case measure => omega
                  case rel => exact ⟨j + 1, g1, cap1, by omega, rfl, by rw [show N - 1 - (j + 1) = N - 1 - j - 1 by omega], rfl, hV5, hR5, hB5⟩
            · have hxs' : ((x : Int) == s) = false := by simp; omega
              have hns2 : Hid (∀ k', k' < k + 1 → e u k' ≠ s) := fun k' h => by
                by_cases e0 : k' = k
                · subst e0; rw [hxe.out]; exact hxs
                · exact hns.out k' (by omega)
              by_cases hneg : fr x < 0
              · have hnew : Hid (∀ b, b < m → q b ≠ x) := fun b hb e0 => by
                  have := hGI.out.inn b hb (by rw [e0]; exact hxs)
                  rw [e0] at this
                  omega
                have hGI2 : Hid (Gr.GI L e v d s N c (m + 1) i (Gr.upd q m x) (Gr.upd l x (l u + 1)) (fun y => ∃ k', k' < k + 1 ∧ e u k' = y) (Gr.upd fr x (u : Int))) := by
                  have := hGI.out.push hc.out hd.out hN.out hi' (p := k) (w := x) (by rw [hqi.out]; exact hk') (by rw [hqi.out]; exact hxe.out) hxn (fun p' hp' => ⟨p', hp', by rw [hqi.out]⟩) hxs hnew.out
                  rw [hqi.out] at this
                  exact this.less (fun y ⟨k', h1, h2⟩ => by
                    by_cases e0 : k' = k
                    · subst e0; exact Or.inr (h2.symm.trans hxe.out)
                    · exact Or.inl ⟨k', by omega, h2⟩)
                have hcnt2 : Hid (Gr.Cnt v (m + 1) (Gr.upd fr x (u : Int))) := hcnt.out.push hxn hneg u
                have r2 := row_upd (x := x) hDM.row (u : Int)
                have v2 : Vec (wr.setCell ⟨w1.heap.size, x, none⟩ (.int .i64 (u : Int))) (w1.heap.size + 1) (some ⟨gb, 0, none⟩) m cap (fun i => (q i : Int)) := hDM.vec.of (fun y hy => Below.heap_setCell _ _ _ _ (by have := (hDM.vec.lt y hy).1; simp only; omega))
                have b3 : Below w1.heap.size w1 (wr.setCell ⟨w1.heap.size, x, none⟩ (.int .i64 (u : Int))) := hDM.bel.setCell (Nat.le_refl _) _
                have i3 : w1.heap.size + 1 ≤ (wr.setCell ⟨w1.heap.size, x, none⟩ (.int .i64 (u : Int))).heap.size := by have := hDM.row.lt; simp [World.setCell]; omega
                have hqi2 : Hid (Gr.upd q m x i = u) := (Gr.upd_other _ _ (by omega)).trans hqi.out
                clear hGI hcnt hns hG2 hnew
                go_upto_region 26 with fail
                clear hDM c3 c4 hc2 hneg
                generalize wr.setCell ⟨w1.heap.size, x, none⟩ (.int .i64 (u : Int)) = w2 at r2 v2 b3 i3 ⊢
                go_wp2_with (at_builtin; refine push_law (by rfl) _ _ (by rfl) v2 x (by rfl) _ rfl (by rfl) (by omega) (by omega) ?_)
                intro g1 cap1 w5 hp
                have hDM2 : DM w1 w5 v (m + 1) cap1 g1 (Gr.upd q m x) (Gr.upd fr x (u : Int)) :=
                  ⟨rowIs_of r2 (hp.block _ (by omega) (fun e0 => by have := (v2.lt _ e0).1; omega)), hp.vec.congr (fun j hj => by
                    by_cases e0 : j = m
                    · subst e0; rw [Gr.upd_same, Gr.upd_same]
                    · rw [Gr.upd_other _ _ e0, Gr.upd_other _ _ e0]), b3.trans ((hp.below (fun y hy => (v2.lt y hy).1) (by omega)).mono (by omega))⟩
                clear hp r2 v2 b3 i3
                go_wp2
                go_roundg (L u - (k + 1))
                case measure => omega
                case rel => exact ⟨m + 1, k + 1, cap1, g1, _, _, _, rfl, by go_num, rfl, by omega, by omega, hqi2, hDM2, hGI2, hcnt2, hns2⟩
              · have hin : ∃ b, b < m ∧ q b = x := by
                  by_cases hex : ∃ b, b < m ∧ q b = x
                  · exact hex
                  · have := hGI.out.out x hxn (fun b hb e0 => hex ⟨b, hb, e0⟩)
                    omega
                obtain ⟨b', hb1', hb2'⟩ := hin
                have hGI2 : Hid (Gr.GI L e v d s N c m i q l (fun y => ∃ k', k' < k + 1 ∧ e u k' = y) fr) := (hGI.out.skip hb1' hb2').less (fun y ⟨k', h1, h2⟩ => by
                    by_cases e0 : k' = k
                    · subst e0; exact Or.inr (h2.symm.trans hxe.out)
                    · exact Or.inl ⟨k', by omega, h2⟩)
                clear hGI hns hb2' hG2
                go_wp2
                go_roundg (L u - (k + 1))
                case measure => omega
                case rel => exact ⟨m, k + 1, cap, gb, q, l, fr, rfl, by go_num, rfl, hi', by omega, hqi, hDM, hGI2, hcnt, hns2⟩
          · have hkL : k = L u := by omega
            have hGI2 : Hid (Gr.GI L e v d s N c m (i + 1) q l (fun _ => False) fr) := hGI.out.next hi' (fun y hy => by
                rw [hqi.out] at hy
                obtain ⟨k', h1, h2⟩ := hy
                exact ⟨k', by omega, h2⟩) (fun hy => by
                rw [hqi.out] at hy
                obtain ⟨k', h1, h2⟩ := hy
                exact hns.out k' (by omega) h2)
            clear hGI hns
            go_wp2
            go_roundg (v + 1 - (i + 1))
            case measure => omega
            case rel => exact ⟨m, i + 1, cap, gb, q, l, fr, rfl, by go_num, rfl, hDM, hGI2, hcnt⟩
end Go.Proofs.Qxb6601852a

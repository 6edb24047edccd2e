/-
  zzReverse: the lists of those that lead to a vertex.
-/
import Derived.Test.Qxb6601852aVec
namespace Go.Proofs.Qxb6601852a
open Go.ChangeShapes Go.WideShapes Go.ChangeAt Go.RowKit

/-- The reversed lists in the making: each a growing slice of its own, all apart; the outer row is block b1. -/
structure RV (w : World) (b1 n : Nat) (G M CP : Nat → Nat) (F : Nat → Nat → Nat) : Prop where
  outer : w.rowIs b1 28 n (fun r => .slice (some ⟨G r, 0, none⟩) (M r) (CP r))
  vec : ∀ r, r < n → Vec w (b1 + 1) (some ⟨G r, 0, none⟩) (M r) (CP r) (fun i => F r i)
  apart : ∀ r r', r < n → r' < n → G r = G r' → r = r'

theorem RV.push {w w1 : World} {b1 n : Nat} {G M CP : Nat → Nat} {F : Nat → Nat → Nat} (h : RV w b1 n G M CP F) {r g cap x : Nat} (hr : r < n) (hp : Pushed w w1 (b1 + 1) (some ⟨G r, 0, none⟩) g (M r) cap (fun i => F r i) x) :
    RV (w1.setCell ⟨b1, r, none⟩ (.slice (some ⟨g, 0, none⟩) (M r + 1) cap)) b1 n (Gr.upd G r g) (Gr.upd M r (M r + 1)) (Gr.upd CP r cap) (Gr.upd F r (Gr.upd (F r) (M r) x)) := by
  have hlt : ∀ r', r' < n → b1 + 1 ≤ G r' ∧ G r' < w.heap.size := fun r' hr' => (h.vec r' hr').lt (G r') rfl
  have hg : b1 + 1 ≤ g := (hp.vec.lt g rfl).1
  have ho : w1.rowIs b1 28 n (fun r => .slice (some ⟨G r, 0, none⟩) (M r) (CP r)) := rowIs_of h.outer (hp.block b1 h.outer.lt (fun e => by have := (hlt r hr).1; simp [ob] at e; omega))
  refine ⟨(ho.set r _).congr (fun i _ => ?_), fun r' hr' => ?_, fun r' r'' h1 h2 h3 => ?_⟩
  · by_cases e0 : i = r
    · subst e0; simp [Gr.upd_same]
    · simp [e0, Gr.upd_other]
  · by_cases e0 : r' = r
    · subst e0
      simp only [Gr.upd_same]
      refine (hp.vec.of (fun k hk => Below.heap_setCell _ _ _ _ ?_)).congr (fun i _ => ?_)
      · simp [ob] at hk; simp only; omega
      · by_cases e1 : i = M r'
        · subst e1; rw [Gr.upd_same, Gr.upd_same]
        · rw [Gr.upd_other _ _ e1, Gr.upd_other _ _ e1]
    · simp only [Gr.upd_other _ _ e0]
      refine (h.vec r' hr').of (fun k hk => ?_)
      have hk' : k = G r' := by simpa [ob] using hk.symm
      subst hk'
      rw [Below.heap_setCell _ _ _ _ (by have := (hlt r' hr').1; simp only; omega)]
      exact hp.block _ (hlt r' hr').2 (fun e => e0 (h.apart r' r hr' hr (by simpa [ob] using e.symm)))
  · have far : ∀ x, x < n → x ≠ r → G x ≠ g := fun x hx hxr e0 => by
      rcases hp.loc with h4 | h4
      · exact hxr (h.apart x r hx hr (by rw [e0]; simpa [ob] using h4.symm))
      · have := (hlt x hx).2; omega
    by_cases e0 : r' = r
    · by_cases e1 : r'' = r
      · omega
      · rw [e0, Gr.upd_same, Gr.upd_other _ _ e1] at h3
        exact absurd h3.symm (far r'' h2 e1)
    · by_cases e1 : r'' = r
      · rw [e1, Gr.upd_same, Gr.upd_other _ _ e0] at h3
        exact absurd h3 (far r' h1 e0)
      · rw [Gr.upd_other _ _ e0, Gr.upd_other _ _ e1] at h3
        exact h.apart r' r'' h1 h2 h3

/-- The lists hold those that were scanned: of vertices below v all, of v the first k. -/
def Scanned (L : Nat → Nat) (e : Nat → Nat → Nat) (n v k : Nat) (M : Nat → Nat) (F : Nat → Nat → Nat) : Prop :=
  ∀ r, r < n → M r ≤ 131072 * v + k ∧ ∀ x, (∃ i, i < M r ∧ F r i = x) ↔ ((x < v ∧ Gr.Ed L e x r) ∨ (x = v ∧ ∃ j, j < k ∧ e v j = r))

theorem Scanned.push {L : Nat → Nat} {e : Nat → Nat → Nat} {n v k : Nat} {M : Nat → Nat} {F : Nat → Nat → Nat} (h : Scanned L e n v k M F) : Scanned L e n v (k + 1) (Gr.upd M (e v k) (M (e v k) + 1)) (Gr.upd F (e v k) (Gr.upd (F (e v k)) (M (e v k)) v)) := by
  intro r hr
  obtain ⟨h1, h2⟩ := h r hr
  by_cases e0 : r = e v k
  · subst e0
    rw [Gr.upd_same, Gr.upd_same]
    refine ⟨by omega, fun x => ⟨?_, ?_⟩⟩
    · rintro ⟨i, hi, hx⟩
      by_cases e1 : i = M (e v k)
      · subst e1
        rw [Gr.upd_same] at hx
        exact Or.inr ⟨hx.symm, k, by omega, rfl⟩
      · rw [Gr.upd_other _ _ e1] at hx
        rcases (h2 x).1 ⟨i, by omega, hx⟩ with h3 | ⟨h3, j, h4, h5⟩
        · exact Or.inl h3
        · exact Or.inr ⟨h3, j, by omega, h5⟩
    · have old : (∃ i, i < M (e v k) ∧ F (e v k) i = x) → ∃ i, i < M (e v k) + 1 ∧ Gr.upd (F (e v k)) (M (e v k)) v i = x := fun ⟨i, h3, h4⟩ => ⟨i, by omega, by rw [Gr.upd_other _ _ (by omega)]; exact h4⟩
      rintro (h3 | ⟨h3, j, h4, h5⟩)
      · exact old ((h2 x).2 (Or.inl h3))
      · by_cases e1 : j = k
        · exact ⟨M (e v k), by omega, by rw [Gr.upd_same, h3]⟩
        · exact old ((h2 x).2 (Or.inr ⟨h3, j, by omega, h5⟩))
  · rw [Gr.upd_other _ _ e0, Gr.upd_other _ _ e0]
    refine ⟨by omega, fun x => (h2 x).trans ⟨?_, ?_⟩⟩
    · rintro (h3 | ⟨h3, j, h4, h5⟩)
      · exact Or.inl h3
      · exact Or.inr ⟨h3, j, by omega, h5⟩
    · rintro (h3 | ⟨h3, j, h4, h5⟩)
      · exact Or.inl h3
      · by_cases e1 : j = k
        · subst e1; exact absurd h5.symm e0
        · exact Or.inr ⟨h3, j, by omega, h5⟩
theorem Scanned.next {L : Nat → Nat} {e : Nat → Nat → Nat} {n v : Nat} {M : Nat → Nat} {F : Nat → Nat → Nat} (h : Scanned L e n v (L v) M F) (hL : L v ≤ 131072) : Scanned L e n (v + 1) 0 M F := by
  intro r hr
  obtain ⟨h1, h2⟩ := h r hr
  refine ⟨by omega, fun x => (h2 x).trans ⟨?_, ?_⟩⟩
  · rintro (⟨h3, h4⟩ | ⟨rfl, j, h4, h5⟩)
    · exact Or.inl ⟨by omega, h4⟩
    · exact Or.inl ⟨by omega, j, h4, h5⟩
  · rintro (⟨h3, h4⟩ | ⟨h3, j, h4, h5⟩)
    · by_cases e0 : x = v
      · subst e0
        obtain ⟨j, h6, h7⟩ := h4
        exact Or.inr ⟨rfl, j, h6, h7⟩
      · exact Or.inl ⟨by omega, h4⟩
    · omega

/-- The reversed graph: the lists hold those that lead there. -/
def IsRev (L : Nat → Nat) (e : Nat → Nat → Nat) (n : Nat) (M : Nat → Nat) (F : Nat → Nat → Nat) : Prop :=
  ∀ r, r < n → M r ≤ 1073741824 ∧ ∀ x, (∃ i, i < M r ∧ F r i = x) ↔ (x < n ∧ Gr.Ed L e x r)

/-- What zzReverse leaves. -/
def RevPost (L : Nat → Nat) (e : Nat → Nat → Nat) (n : Nat) (w : World) (en : Ending) (w' : World) : Prop :=
  ∃ (b2 : Nat) (G M CP : Nat → Nat) (F : Nat → Nat → Nat), en = .returned (.slice (some ⟨b2, 0, none⟩) n n) ∧ Gm w' (some ⟨b2, 0, none⟩) b2 n (fun r => some ⟨G r, 0, none⟩) M CP F ∧ IsRev L e n M F ∧ Below w.heap.size w w'

set_option maxRecDepth 100000 in
set_option maxHeartbeats 4000000 in
theorem rev_any {w : World} {a : Option Addr} {B n : Nat} {A : Nat → Option Addr} {L C : Nat → Nat} {e : Nat → Nat → Nat} (hG : Gm w a B n A L C e) (hW : Gr.WF L e n) (hn : n ≤ 4096) (hL : Hid (∀ r, r < n → L r ≤ 131072)) :
    Calls Try.prog 17 #[.slice a n n] w (RevPost L e n w) := by
  have hmk := run_make_row' (P := Try.prog) 28 3 (.int .i64 0) 8 Try.underlying28 Try.info3 rfl .i64 .i64 n (by omega) (by omega)
  have hmk2 := run_make_row' (P := Try.prog) 22 28 (.slice none 0 0) 24 Try.underlying22 Try.info28 rfl .i64 .i64 n (by omega) (by omega)
  go_enter Try.func17, Try.ntmps17
  go_wp2_with fail
  have hrow0 := World.rowIs_made w (.int .i64 0) n 3
  go_loopg [5] n (fun g i wr => ∃ (v : Nat) (f : Nat → Nat), v ≤ n ∧ i = .int .i64 v ∧ g = n - v ∧ wr.rowIs w.heap.size 3 n (fun x => .int .i64 (f x)) ∧ Below w.heap.size w wr ∧ wr.heap.size = w.heap.size + 1 ∧ Hid (∀ x, f x ≤ 131072 * v))
  case atStart => exact ⟨0, fun _ => 0, Nat.zero_le _, rfl, rfl, hrow0, (Below.refl _ _).alloc (Nat.le_refl _) _, by simp, fun x => Nat.zero_le _⟩
  case round =>
    obtain ⟨v, f, hv, rfl, hg, hrow, hbel, hsz, hf⟩ := hrel
    clear hrow0
    by_cases hlt : (v : Int) < n
    · have hv' : v < n := by omega
      have hLv := hL.out v hv'
      obtain ⟨rfl, hB, -⟩ := hG.row v hv'
      go_wp2_with fail
      go_loopg [6] (L v) (fun g i wr => ∃ (k : Nat) (f : Nat → Nat), k ≤ L v ∧ i = .int .i64 k ∧ g = L v - k ∧ wr.rowIs w.heap.size 3 n (fun x => .int .i64 (f x)) ∧ Below w.heap.size w wr ∧ wr.heap.size = w.heap.size + 1 ∧ Hid (∀ x, f x ≤ 131072 * v + k))
      case atStart => exact ⟨0, f, Nat.zero_le _, rfl, rfl, hrow, hbel, hsz, fun x => by have := hf.out x; omega⟩
      case round =>
        clear hrow hbel hsz hf
        obtain ⟨k, f, hk, rfl, hg', hrow, hbel, hsz, hf⟩ := hrel
        have hG' := hG.later hbel
        obtain ⟨-, -, hc0⟩ := hG'.row v hv'
        by_cases hlt' : (k : Int) < L v
        · have hk' : k < L v := by omega
          obtain ⟨b, hc1, hc2⟩ := hG'.at hv' hk'
          have hen := hW.lt v hv' k hk'
          have hc3 := hrow.cell hen
          have hf3 := hrow.frozen (e v k)
          have hfb := hf.out (e v k)
          have R := (hrow.set (e v k) (.int .i64 ((f (e v k) + 1 : Nat) : Int))).congr (g := fun x => .int .i64 (Gr.upd f (e v k) (f (e v k) + 1) x : Nat)) (fun x _ => by
            by_cases e0 : x = e v k
            · subst e0; simp [Gr.upd_same]
            · simp [e0, Gr.upd_other])
          have hf' : Hid (∀ x, Gr.upd f (e v k) (f (e v k) + 1) x ≤ 131072 * v + (k + 1)) := fun x => by
            by_cases e0 : x = e v k
            · subst e0; rw [Gr.upd_same]; omega
            · rw [Gr.upd_other _ _ e0]; have := hf.out x; omega
          have i1 : ((e v k : Nat) : Int) < n := by omega
          clear hf hc0
          go_wp2
          go_roundg (L v - (k + 1))
          case measure => omega
          case rel => exact ⟨k + 1, _, by omega, by go_num, rfl, R, hbel.setCell (Nat.le_refl _) _, by simpa [World.setCell] using hsz, hf'⟩
        · have hf' : Hid (∀ x, f x ≤ 131072 * (v + 1)) := fun x => by have := hf.out x; omega
          go_wp2
          go_roundg (n - (v + 1))
          case measure => omega
          case rel => exact ⟨v + 1, f, by omega, by go_num, rfl, hrow, hbel, hsz, hf'⟩
    · clear hg
      have hf' : Hid (∀ x, f x ≤ 536870912) := fun x => by have := hf.out x; omega
      clear hf hmk
      go_wp2_with fail
      have hrow1 := World.rowIs_made wr (.slice none 0 0) n 28
      have hrow2 := hrow.alloc (.cells (madeCells #[.slice none 0 0] n) 28)
      have hbel2 : Below w.heap.size w (wr.alloc (.cells (madeCells #[.slice none 0 0] n) 28)) := hbel.alloc (by omega) _
      have hsz2 : (wr.alloc (.cells (madeCells #[.slice none 0 0] n) 28)).heap.size = w.heap.size + 2 := by simp [hsz]
      rw [hsz] at hrow1
      clear hrow hbel hmk2
      go_loopg [8] n (fun g i wr => ∃ (j : Nat), j ≤ n ∧ i = .int .i64 j ∧ g = n - j ∧ wr.rowIs w.heap.size 3 n (fun x => .int .i64 (f x)) ∧ Below w.heap.size w wr ∧ wr.heap.size = w.heap.size + 2 + j ∧
        wr.rowIs (w.heap.size + 1) 28 n (fun r => if r < j then .slice (some ⟨w.heap.size + 2 + r, 0, none⟩) 0 (f r) else .slice none 0 0) ∧
        Hid (∀ r, r < j → Vec wr (w.heap.size + 1 + 1) (some ⟨w.heap.size + 2 + r, 0, none⟩) 0 (f r) (fun i => ((0 : Nat) : Int))))
      case atStart => exact ⟨0, Nat.zero_le _, rfl, rfl, hrow2, hbel2, hsz2, hrow1.congr (by simp), fun r hr => absurd hr (by omega)⟩
      case round =>
        obtain ⟨j, hj, rfl, hg', hcnt, hbel, hsz', hrev, hvec⟩ := hrel
        clear hrow1 hrow2 hbel2 hsz2
        by_cases hlt' : (j : Int) < n
        · have hj' : j < n := by omega
          have hfj := hf'.out j
          have hmk3 := run_make_room (P := Try.prog) 28 3 (.int .i64 0) 8 Try.underlying28 Try.info3 rfl .i64 .i64 (f j) (by omega) (by omega)
          have c1 := hcnt.cell hj'
          have v1 := Vec.room wr (w.heap.size + 1 + 1) (f j) (by omega) (by omega) (fun _ => ((0 : Nat) : Int))
          rw [hsz'] at v1
          have R0 := hrev.alloc (.cells (madeCells #[.int .i64 0] (f j)) 3)
          have R1 := hcnt.alloc (.cells (madeCells #[.int .i64 0] (f j)) 3)
          have R2 : Hid (∀ r, r < j → Vec (wr.alloc (.cells (madeCells #[.int .i64 0] (f j)) 3)) (w.heap.size + 1 + 1) (some ⟨w.heap.size + 2 + r, 0, none⟩) 0 (f r) (fun i => ((0 : Nat) : Int))) := fun r hr => World.ownsRow.alloc (hvec.out r hr) _
          have B1 : Below w.heap.size w (wr.alloc (.cells (madeCells #[.int .i64 0] (f j)) 3)) := hbel.alloc (by omega) _
          have S1 : (wr.alloc (.cells (madeCells #[.int .i64 0] (f j)) 3)).heap.size = w.heap.size + 2 + (j + 1) := by simp [hsz']; omega
          have c2 : (wr.alloc (.cells (madeCells #[.int .i64 0] (f j)) 3)).cell? ⟨w.heap.size + 1, j, none⟩ = some (.slice none 0 0) := by rw [R0.cell hj']; simp
          have c3 : (wr.alloc (.cells (madeCells #[.int .i64 0] (f j)) 3)).frozen? ⟨w.heap.size + 1, j, none⟩ = false := R0.frozen j
          clear hvec hrev hcnt hbel
          go_upto_region 14 with fail
          go_wp2
          go_roundg (n - (j + 1))
          case measure => omega
          case rel =>
            refine ⟨j + 1, by omega, by go_num, rfl, R1.setOther (by simp only; omega) _, B1.setCell (by simp only; omega) _, by rw [← S1]; simp [World.setCell], ?_, fun r hr => ?_⟩
            · refine clone_step (g := fun r => .slice (some ⟨w.heap.size + 2 + r, 0, none⟩) 0 (f r)) R0
            · by_cases e0 : r = j
              · subst e0
                exact v1.of (fun k hk => Below.heap_setCell _ _ _ _ (by simp [ob] at hk; simp only; omega))
              · exact (R2.out r (by omega)).of (fun k hk => Below.heap_setCell _ _ _ _ (by simp [ob] at hk; simp only; omega))
        · obtain rfl : j = n := by omega
          have hRV : RV wr (w.heap.size + 1) j (fun r => w.heap.size + 2 + r) (fun _ => 0) f (fun _ _ => 0) :=
            ⟨hrev.congr (fun r hr => by simp [hr]), fun r hr => hvec.out r hr, fun r r' _ _ h => by omega⟩
          have hS0 : Hid (Scanned L e j 0 0 (fun _ => 0) (fun _ _ => 0)) := fun r hr => ⟨Nat.zero_le _, fun x => ⟨fun ⟨i, hi, _⟩ => absurd hi (Nat.not_lt_zero _), fun h => by rcases h with ⟨h, _⟩ | ⟨_, i, h, _⟩ <;> omega⟩⟩
          clear hvec hrev hcnt hg' hlt'
          go_wp2_with fail
          go_loopg [9] j (fun g i wr => ∃ (v : Nat) (G M CP : Nat → Nat) (F : Nat → Nat → Nat), v ≤ j ∧ i = .int .i64 v ∧ g = j - v ∧ RV wr (w.heap.size + 1) j G M CP F ∧ Below w.heap.size w wr ∧ Hid (Scanned L e j v 0 M F))
          case atStart => exact ⟨0, _, _, _, _, Nat.zero_le _, rfl, rfl, hRV, hbel, hS0⟩
          case round =>
            clear hRV hbel hS0 hsz'
            obtain ⟨v, G, M, CP, F, hv, rfl, hg, hRV, hbel, hSc⟩ := hrel
            by_cases hlt : (v : Int) < j
            · have hv' : v < j := by omega
              have hLv := hL.out v hv'
              obtain ⟨rfl, hB, -⟩ := hG.row v hv'
              go_wp2_with fail
              go_loopg [10] (L v) (fun g i wr => ∃ (k : Nat) (G M CP : Nat → Nat) (F : Nat → Nat → Nat), k ≤ L v ∧ i = .int .i64 k ∧ g = L v - k ∧ RV wr (w.heap.size + 1) j G M CP F ∧ Below w.heap.size w wr ∧ Hid (Scanned L e j v k M F))
              case atStart => exact ⟨0, G, M, CP, F, Nat.zero_le _, rfl, rfl, hRV, hbel, hSc⟩
              case round =>
                clear hRV hbel hSc
                obtain ⟨k, G, M, CP, F, hk, rfl, hg', hRV, hbel, hSc⟩ := hrel
                have hG' := hG.later hbel
                obtain ⟨-, -, hc0⟩ := hG'.row v hv'
                by_cases hlt' : (k : Int) < L v
                · have hk' : k < L v := by omega
                  obtain ⟨b, hc1, hc2⟩ := hG'.at hv' hk'
                  have hen := hW.lt v hv' k hk'
                  have hMb := (hSc.out (e v k) hen).1
                  have c1 := hRV.outer.cell hen
                  have i1 : ((e v k : Nat) : Int) < j := by omega
                  have hS2 : Hid (Scanned L e j v (k + 1) _ _) := hSc.out.push
                  have hbs : w.heap.size + 1 < wr.heap.size := hRV.outer.lt
                  have hP := fun g cap w1 => hRV.push (g := g) (cap := cap) (w1 := w1) (x := v) hen
                  have hbl := fun w1 g cap (hp : Pushed wr w1 (w.heap.size + 1 + 1) (some ⟨G (e v k), 0, none⟩) g (M (e v k)) cap (fun i => F (e v k) i) v) => hbel.trans ((hp.below (fun x hx => ((hRV.vec _ hen).lt x hx).1) (by omega)).mono (by omega))
                  have hvk := hRV.vec _ hen
                  have hcell : ∀ w1 g cap, Pushed wr w1 (w.heap.size + 1 + 1) (some ⟨G (e v k), 0, none⟩) g (M (e v k)) cap (fun i => F (e v k) i) v → w1.rowIs (w.heap.size + 1) 28 j (fun r => .slice (some ⟨G r, 0, none⟩) (M r) (CP r)) := fun w1 g cap hp =>
                    rowIs_of hRV.outer (hp.block _ hbs (fun e0 => by have := ((hRV.vec _ hen).lt _ e0).1; omega))
                  clear hc0 hSc hRV hG'
                  go_wp2_with (at_builtin; refine push_law (by rfl) _ _ (by rfl) hvk v (by rfl) _ rfl (by rfl) (by omega) (by omega) ?_)
                  intro g cap w1 hp
                  have hro := hcell w1 g cap hp
                  have d1 := hro.cell hen
                  have d2 := hro.frozen (e v k)
                  have hRV2 := hP g cap w1 hp
                  have hbel2 := (hbl w1 g cap hp).setCell (p := ⟨w.heap.size + 1, e v k, none⟩) (by simp only; omega) (.slice (some ⟨g, 0, none⟩) (M (e v k) + 1) cap)
                  clear hp hro hP hbl hcell hvk hbel
                  go_wp2
                  go_roundg (L v - (k + 1))
                  case measure => omega
                  case rel => exact ⟨k + 1, _, _, _, _, by omega, by go_num, rfl, hRV2, hbel2, hS2⟩
                · have hS2 : Hid (Scanned L e j (v + 1) 0 M F) := by
                    have := hSc.out
                    rw [show k = L v by omega] at this
                    exact this.next hLv
                  clear hSc
                  go_wp2
                  go_roundg (j - (v + 1))
                  case measure => omega
                  case rel => exact ⟨v + 1, G, M, CP, F, by omega, by go_num, rfl, hRV, hbel, hS2⟩
            · obtain rfl : v = j := by omega
              go_wp2
              go_ret
              refine ⟨w.heap.size + 1, G, M, CP, F, rfl, ⟨fun r hr => ⟨rfl, hRV.outer.lt, hRV.outer.cell hr⟩, fun r hr i hi => ⟨G r, rfl, ((hRV.vec r hr).lt _ rfl).2, (hRV.vec r hr).cell hi⟩⟩, fun r hr => ⟨?_, fun x => ?_⟩, hbel⟩
              · have := (hSc.out r hr).1; omega
              · refine ((hSc.out r hr).2 x).trans ⟨?_, fun h => Or.inl h⟩
                rintro (h | ⟨_, i, h, _⟩)
                · exact h
                · omega
end Go.Proofs.Qxb6601852a

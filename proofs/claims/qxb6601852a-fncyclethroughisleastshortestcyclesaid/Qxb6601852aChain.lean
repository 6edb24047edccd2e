/-
  The search by breadth from s finds the greedy cycle, in plain words.
-/
import Derived.Test.Qxb6601852aBfs
namespace Go.Proofs.Qxb6601852a
namespace Gr

/-- An edge: an entry of a list. -/
def Ed (L : Nat → Nat) (e : Nat → Nat → Nat) (u w : Nat) : Prop := ∃ k, k < L u ∧ e u k = w

/-- The greedy cycle c of N edges from s: each time the first entry at the distance that is left. -/
structure Ch (L : Nat → Nat) (e : Nat → Nat → Nat) (n : Nat) (d : Nat → Int) (s N : Nat) (c : Nat → Nat) : Prop where
  c0 : c 0 = s
  lt : ∀ k, k ≤ N → c k < n
  step : ∀ k, k < N → ∃ p, p < L (c k) ∧ e (c k) p = c (k + 1) ∧ d (c (k + 1)) = (N : Int) - 1 - k ∧ ∀ p', p' < p → d (e (c k) p') ≠ (N : Int) - 1 - k

/-- The graph: entries name vertices, none its own. -/
structure WF (L : Nat → Nat) (e : Nat → Nat → Nat) (n : Nat) : Prop where
  lt : ∀ v, v < n → ∀ k, k < L v → e v k < n
  ne : ∀ v, v < n → ∀ k, k < L v → e v k ≠ v

/-- What stands while the search goes on. -/
structure GI (L : Nat → Nat) (e : Nat → Nat → Nat) (n : Nat) (d : Nat → Int) (s N : Nat) (c : Nat → Nat) (m i : Nat) (q l : Nat → Nat) (C : Nat → Prop) (fr : Nat → Int) : Prop where
  bf : BF (Ed L e) s m i q l C
  qn : ∀ a, a < m → q a < n
  out : ∀ v, v < n → (∀ b, b < m → q b ≠ v) → fr v = -1
  inn : ∀ b, b < m → q b ≠ s → 0 ≤ fr (q b)
  g1 : ∀ k, 1 ≤ k → k < N → ∀ a, a < m → q a = c k → l (c k) = k ∧ fr (c k) = c (k - 1)
  g2 : ∀ a, a < m → (q a = s ∨ (0 ≤ d (q a) ∧ (l (q a) : Int) + d (q a) = N)) → ∃ a', a' ≤ a ∧ q a' = c (l (q a))
  ns : ∀ a, a < i → ¬ Ed L e (q a) s

section
variable {L : Nat → Nat} {e : Nat → Nat → Nat} {n : Nat} {d : Nat → Int} {s N : Nat} {c : Nat → Nat} {m i : Nat} {q l : Nat → Nat} {C : Nat → Prop} {fr : Nat → Int}

theorem IsDist.self (hd : IsDist (Ed L e) n s d) (hs : s < n) : d s = 0 := by
  rcases hd s hs with ⟨_, h⟩ | ⟨x, h1, h2, h3⟩
  · exact absurd rfl (h 0)
  · have := h3 0 rfl
    omega
theorem IsDist.zero (hd : IsDist (Ed L e) n s d) {v : Nat} (hv : v < n) (h : d v = 0) : v = s := by
  rcases hd v hv with ⟨h1, _⟩ | ⟨x, h1, h2, h3⟩
  · omega
  · obtain rfl : x = 0 := by omega
    exact h2
theorem IsDist.le (hd : IsDist (Ed L e) n s d) {v x : Nat} (hv : v < n) (h : W (Ed L e) x v s) : 0 ≤ d v ∧ d v ≤ x := by
  rcases hd v hv with ⟨_, h1⟩ | ⟨y, h1, h2, h3⟩
  · exact absurd h (h1 x)
  · have := h3 x h
    omega
theorem IsDist.walk (hd : IsDist (Ed L e) n s d) {v : Nat} (hv : v < n) (h : 0 ≤ d v) : W (Ed L e) (d v).toNat v s := by
  rcases hd v hv with ⟨h1, _⟩ | ⟨y, h1, h2, h3⟩
  · omega
  · rw [show (d v).toNat = y by omega]; exact h2

/-- N is the least length of a closed walk at s. -/
def Least (L : Nat → Nat) (e : Nat → Nat → Nat) (s N : Nat) : Prop := ∀ x, 1 ≤ x → W (Ed L e) x s s → N ≤ x

theorem Least.two (h : Least L e s N) {a b v : Nat} (h1 : W (Ed L e) a s v) (h2 : W (Ed L e) b v s) (h3 : 1 ≤ a + b) : N ≤ a + b := h _ h3 (h1.trans h2)

theorem Ch.dist (hc : Ch L e n d s N c) {k : Nat} (h1 : 1 ≤ k) (h2 : k ≤ N) : d (c k) = (N : Int) - k := by
  obtain ⟨p, _, _, h, _⟩ := hc.step (k - 1) (by omega)
  rw [show k - 1 + 1 = k by omega] at h
  omega
theorem Ch.edge (hc : Ch L e n d s N c) {k : Nat} (h : k < N) : Ed L e (c k) (c (k + 1)) := by
  obtain ⟨p, h1, h2, _⟩ := hc.step k h
  exact ⟨p, h1, h2⟩
theorem Ch.ne (hc : Ch L e n d s N c) (hd : IsDist (Ed L e) n s d) (hs : s < n) {k : Nat} (h1 : 1 ≤ k) (h2 : k < N) : c k ≠ s := fun h => by
  have := hc.dist h1 (by omega)
  rw [h, hd.self hs] at this
  omega
theorem Ch.last (hc : Ch L e n d s N c) (hd : IsDist (Ed L e) n s d) (h1 : 1 ≤ N) : c N = s :=
  hd.zero (hc.lt N (Nat.le_refl _)) (by rw [hc.dist h1 (Nat.le_refl _)]; omega)

theorem GI.start (q : Nat → Nat) (hq : q 0 = s) (hs : s < n) (hc : Ch L e n d s N c) (hd : IsDist (Ed L e) n s d) : GI L e n d s N c 1 0 q (fun _ => 0) (fun _ => False) (fun _ => -1) := by
  refine ⟨BF.start q _ hq rfl, fun a ha => ?_, fun _ _ _ => rfl, fun b hb h => ?_, fun k h1 h2 a ha h => ?_, fun a ha _ => ?_, fun a ha => absurd ha (by omega)⟩
  · rw [show a = 0 by omega, hq]; exact hs
  · rw [show b = 0 by omega] at h; exact absurd hq h
  · rw [show a = 0 by omega, hq] at h; exact absurd h.symm (hc.ne hd hs h1 h2)
  · exact ⟨a, Nat.le_refl _, by rw [show a = 0 by omega, hq, hc.c0]⟩

/-- A vertex of level k or later is at hand: the chain is in the queue up to k. -/
theorem GI.reached (h : GI L e n d s N c m i q l C fr) (hc : Ch L e n d s N c) (hi : i < m) : ∀ k, k < N → k ≤ l (q i) → ∃ a, a < m ∧ q a = c k := by
  intro k
  induction k with
  | zero => intro _ _; exact ⟨0, by omega, by rw [h.bf.q0, hc.c0]⟩
  | succ k ih =>
    intro h1 h2
    obtain ⟨a, ha, hq⟩ := ih (by omega) (by omega)
    have hl : l (c k) = k := by
      by_cases e0 : k = 0
      · subst e0; rw [hc.c0]; exact h.bf.l0
      · exact (h.g1 k (by omega) (by omega) a ha hq).1
    have hai : a < i := by
      by_cases hlt : a < i
      · exact hlt
      · have := h.bf.sorted i a (by omega) ha
        rw [hq, hl] at this
        omega
    obtain ⟨b, h3, h4, _⟩ := h.bf.done a hai (c (k + 1)) (by rw [hq]; exact hc.edge (by omega))
    exact ⟨b, h3, h4⟩

theorem GI.skip (h : GI L e n d s N c m i q l C fr) {w b : Nat} (hb : b < m) (hw : q b = w) : GI L e n d s N c m i q l (fun x => C x ∨ x = w) fr :=
  ⟨h.bf.skip hb hw, h.qn, h.out, h.inn, h.g1, h.g2, h.ns⟩
theorem GI.next (h : GI L e n d s N c m i q l C fr) (hi : i < m) (hC : ∀ w, Ed L e (q i) w → C w) (hns : ¬ Ed L e (q i) s) : GI L e n d s N c m (i + 1) q l (fun _ => False) fr :=
  ⟨h.bf.next hi hC, h.qn, h.out, h.inn, h.g1, h.g2, fun a ha => by
    by_cases e0 : a = i
    · rw [e0]; exact hns
    · exact h.ns a (by omega)⟩

/-- Where the next vertex has an entry that is good, it is good itself. -/
theorem GI.good (h : GI L e n d s N c m i q l C fr) (hd : IsDist (Ed L e) n s d) (hN : Least L e s N) (hi : i < m) {w : Nat} (hw : w < n) (he : Ed L e (q i) w) (hw0 : 0 ≤ d w) (hg : (l (q i) : Int) + 1 + d w = N) :
    q i = s ∨ (0 ≤ d (q i) ∧ (l (q i) : Int) + d (q i) = N) := by
  by_cases e0 : q i = s
  · exact Or.inl e0
  · right
    have h1 : W (Ed L e) ((d w).toNat + 1) (q i) s := ⟨w, he, hd.walk hw hw0⟩
    obtain ⟨h2, h3⟩ := hd.le (h.qn i hi) h1
    have h4 := h.bf.walk i i (Nat.le_refl _) hi
    have h5 := hN.two h4 (hd.walk (h.qn i hi) h2) (by
      by_cases e1 : d (q i) = 0
      · exact absurd (hd.zero (h.qn i hi) e1) e0
      · omega)
    omega

theorem GI.push (h : GI L e n d s N c m i q l C fr) (hc : Ch L e n d s N c) (hd : IsDist (Ed L e) n s d) (hN : Least L e s N) (hi : i < m) {p w : Nat} (hp : p < L (q i)) (hw : e (q i) p = w)
    (hwn : w < n) (hC : ∀ p', p' < p → C (e (q i) p')) (hws : w ≠ s) (hnew : ∀ b, b < m → q b ≠ w) :
    GI L e n d s N c (m + 1) i (upd q m w) (upd l w (l (q i) + 1)) (fun x => C x ∨ x = w) (upd fr w (q i)) := by
  have he : Ed L e (q i) w := ⟨p, hp, hw⟩
  have hq : ∀ a, a < m → upd q m w a = q a := fun a ha => upd_other _ _ (by omega)
  have hl : ∀ a, a < m → upd l w (l (q i) + 1) (q a) = l (q a) := fun a ha => upd_other _ _ (hnew a ha)
  refine ⟨h.bf.push hi he hnew, fun a ha => ?_, fun v hv hb => ?_, fun b hb hbs => ?_, fun k h1 h2 a ha hqa => ?_, fun a ha hg => ?_, fun a ha => ?_⟩
  · by_cases ea : a = m
    · subst ea; rw [upd_same]; exact hwn
    · rw [hq a (by omega)]; exact h.qn a (by omega)
  · have hvw : v ≠ w := fun e1 => hb m (by omega) (by rw [upd_same, e1])
    rw [upd_other _ _ hvw]
    exact h.out v hv (fun b hb' => by have := hb b (by omega); rwa [hq b hb'] at this)
  · by_cases eb : b = m
    · subst eb; rw [upd_same, upd_same]; omega
    · rw [hq b (by omega)] at hbs ⊢
      rw [upd_other _ _ (hnew b (by omega))]
      exact h.inn b (by omega) hbs
  · by_cases ea : a = m
    · subst ea
      rw [upd_same] at hqa
      subst hqa
      rw [upd_same, upd_same]
      have hdk := hc.dist h1 (Nat.le_of_lt h2)
      have u1 : l (q i) + 1 ≤ k := by
        by_cases hlt : k ≤ l (q i)
        · obtain ⟨b, hb, hqb⟩ := h.reached hc hi k h2 hlt
          exact absurd hqb (hnew b hb)
        · omega
      have u2 := hN.two (W.snoc (h.bf.walk i i (Nat.le_refl _) hi) he) (hd.walk hwn (by omega)) (by omega)
      have u3 : l (q i) + 1 = k := by omega
      refine ⟨u3, ?_⟩
      obtain ⟨a', v1, v2⟩ := h.g2 i hi (h.good hd hN hi hwn he (by omega) (by omega))
      rw [show l (q i) = k - 1 by omega] at v2
      have : a' = i := by
        by_cases hlt : a' < i
        · obtain ⟨b, h3, h4, _⟩ := h.bf.done a' hlt (c k) (by
            rw [v2]
            have := hc.edge (k := k - 1) (by omega)
            rwa [show k - 1 + 1 = k by omega] at this)
          exact absurd h4 (hnew b h3)
        · omega
      rw [this] at v2
      rw [v2]
    · rw [hq a (by omega)] at hqa
      have hne : c k ≠ w := by rw [← hqa]; exact hnew a (by omega)
      rw [upd_other _ _ hne, upd_other _ _ hne]
      exact h.g1 k h1 h2 a (by omega) hqa
  · by_cases ea : a = m
    · subst ea
      rw [upd_same, upd_same] at hg ⊢
      rcases hg with hg | ⟨hw0, hg⟩
      · exact absurd hg hws
      · have hd1 : 1 ≤ d w := by
          by_cases e1 : d w = 0
          · exact absurd (hd.zero hwn e1) hws
          · omega
        obtain ⟨a', v1, v2⟩ := h.g2 i hi (h.good hd hN hi hwn he hw0 (by omega))
        have hk : l (q i) < N := by omega
        by_cases hlt : a' < i
        · obtain ⟨b, h3, h4, _⟩ := h.bf.done a' hlt (c (l (q i) + 1)) (by rw [v2]; exact hc.edge hk)
          exact ⟨b, by omega, by rw [hq b h3]; exact h4⟩
        · obtain rfl : a' = i := by omega
          obtain ⟨p0, x1, x2, x3, x4⟩ := hc.step (l (q a')) hk
          rw [← v2] at x1 x2 x4
          by_cases hp0 : p0 < p
          · obtain ⟨b, h3, h4, _⟩ := h.bf.cur hi _ (hC p0 hp0)
            exact ⟨b, by omega, by rw [hq b h3, h4, x2]⟩
          · by_cases hp1 : p0 = p
            · subst hp1
              exact ⟨a, Nat.le_refl _, by rw [upd_same, ← hw, x2]⟩
            · exact absurd (x4 p (by omega)) (fun hh => hh (by rw [hw]; omega))
    · rw [hq a (by omega), hl a (by omega)] at hg ⊢
      obtain ⟨a', h1, h2⟩ := h.g2 a (by omega) hg
      exact ⟨a', h1, by rw [hq a' (by omega)]; exact h2⟩
  · rw [hq a (by omega)]; exact h.ns a ha

/-- The search meets s again: at the chain's last vertex; the chain lies in 'from'. -/
theorem GI.meets (h : GI L e n d s N c m i q l C fr) (hc : Ch L e n d s N c) (hd : IsDist (Ed L e) n s d) (hN : Least L e s N) (h2 : 2 ≤ N) (hi : i < m) (he : Ed L e (q i) s) (hne : q i ≠ s) :
    q i = c (N - 1) ∧ ∀ k, 1 ≤ k → k < N → fr (c k) = c (k - 1) := by
  obtain ⟨hd0, hd1⟩ := hd.le (h.qn i hi) (show W (Ed L e) 1 (q i) s from ⟨s, he, rfl⟩)
  have hd2 : d (q i) = 1 := by
    by_cases e1 : d (q i) = 0
    · exact absurd (hd.zero (h.qn i hi) e1) hne
    · omega
  have u1 := hN.two (h.bf.walk i i (Nat.le_refl _) hi) (show W (Ed L e) 1 (q i) s from ⟨s, he, rfl⟩) (by omega)
  obtain ⟨a, ha, hqa⟩ := h.reached hc hi (N - 1) (by omega) (by omega)
  have hla := (h.g1 (N - 1) (by omega) (by omega) a ha hqa).1
  have hai : i ≤ a := by
    by_cases hlt : a < i
    · refine absurd ?_ (h.ns a hlt)
      rw [hqa]
      have := hc.edge (k := N - 1) (by omega)
      rwa [show N - 1 + 1 = N by omega, hc.last hd (by omega)] at this
    · omega
  have hsrt := h.bf.sorted i a hai ha
  rw [hqa, hla] at hsrt
  have hli : l (q i) = N - 1 := by omega
  obtain ⟨a', v1, v2⟩ := h.g2 i hi (Or.inr ⟨hd0, by omega⟩)
  rw [hli] at v2
  have : a' = a := h.bf.inj a' a (by omega) ha (by rw [v2, hqa])
  refine ⟨by rw [show i = a' by omega]; exact v2, fun k k1 k2 => ?_⟩
  obtain ⟨b, hb, hqb⟩ := h.reached hc hi k k2 (by omega)
  exact (h.g1 k k1 k2 b hb hqb).2

/-- The queue never runs dry. -/
theorem GI.more (h : GI L e n d s N c m i q l C fr) (hc : Ch L e n d s N c) (hd : IsDist (Ed L e) n s d) (h2 : 1 ≤ N) : i < m := by
  by_cases hi : i < m
  · exact hi
  · have him := h.bf.im
    have all : ∀ k, k < N → ∃ a, a < m ∧ q a = c k := by
      intro k
      induction k with
      | zero => intro _; exact ⟨0, by have := h.bf.m1; omega, by rw [h.bf.q0, hc.c0]⟩
      | succ k ih =>
        intro hk
        obtain ⟨a, ha, hqa⟩ := ih (by omega)
        obtain ⟨b, h3, h4, _⟩ := h.bf.done a (by omega) (c (k + 1)) (by rw [hqa]; exact hc.edge (by omega))
        exact ⟨b, h3, h4⟩
    obtain ⟨a, ha, hqa⟩ := all (N - 1) (by omega)
    refine absurd ?_ (h.ns a (by omega))
    rw [hqa]
    have := hc.edge (k := N - 1) (by omega)
    rwa [show N - 1 + 1 = N by omega, hc.last hd (by omega)] at this
end
end Gr
end Go.Proofs.Qxb6601852a

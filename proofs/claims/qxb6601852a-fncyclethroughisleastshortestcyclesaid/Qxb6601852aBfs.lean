/-
  Walks in a graph, and searches by breadth, in plain words.
-/
namespace Go.Proofs.Qxb6601852a
namespace Gr

/-- A walk of c edges. -/
def W (E : Nat → Nat → Prop) : Nat → Nat → Nat → Prop
  | 0, u, w => u = w
  | c + 1, u, w => ∃ x, E u x ∧ W E c x w

theorem W.snoc {E : Nat → Nat → Prop} : ∀ {c u w x : Nat}, W E c u w → E w x → W E (c + 1) u x
  | 0, u, w, x, h, he => by
    have h : u = w := h
    subst h
    exact ⟨x, he, rfl⟩
  | c + 1, u, w, x, ⟨y, h1, h2⟩, he => ⟨y, h1, W.snoc h2 he⟩
theorem W.trans {E : Nat → Nat → Prop} : ∀ {c d u w x : Nat}, W E c u w → W E d w x → W E (c + d) u x
  | 0, d, u, w, x, h, k => by
    have h : u = w := h
    subst h
    rw [Nat.zero_add]; exact k
  | c + 1, d, u, w, x, ⟨y, h1, h2⟩, k => by
    rw [show c + 1 + d = (c + d) + 1 by omega]
    exact ⟨y, h1, W.trans h2 k⟩
theorem W.rev {E : Nat → Nat → Prop} : ∀ {c u w : Nat}, W E c u w → W (fun a b => E b a) c w u
  | 0, u, w, h => by
    have h : u = w := h
    exact h.symm
  | c + 1, u, w, ⟨y, h1, h2⟩ => W.snoc (E := fun a b => E b a) (W.rev h2) h1

def upd {α : Type} (f : Nat → α) (k : Nat) (x : α) : Nat → α := fun j => if j = k then x else f j
theorem upd_same {α : Type} (f : Nat → α) (k : Nat) (x : α) : upd f k x k = x := if_pos rfl
theorem upd_other {α : Type} (f : Nat → α) {k j : Nat} (x : α) (h : j ≠ k) : upd f k x j = f j := if_neg h

/-- A search by breadth from s along E: the queue q of m vertices, i of them done, of the next the entries in C; l: the levels. -/
structure BF (E : Nat → Nat → Prop) (s m i : Nat) (q l : Nat → Nat) (C : Nat → Prop) : Prop where
  m1 : 1 ≤ m
  im : i ≤ m
  q0 : q 0 = s
  l0 : l s = 0
  inj : ∀ a b, a < m → b < m → q a = q b → a = b
  sorted : ∀ a b, a ≤ b → b < m → l (q a) ≤ l (q b)
  near : ∀ a, a < m → i < m → l (q a) ≤ l (q i) + 1
  done : ∀ a, a < i → ∀ w, E (q a) w → ∃ b, b < m ∧ q b = w ∧ l w ≤ l (q a) + 1
  cur : i < m → ∀ w, C w → ∃ b, b < m ∧ q b = w ∧ l w ≤ l (q i) + 1
  par : ∀ a, 0 < a → a < m → ∃ b, b < a ∧ E (q b) (q a) ∧ l (q a) = l (q b) + 1

section
variable {E : Nat → Nat → Prop} {s m i : Nat} {q l : Nat → Nat} {C : Nat → Prop}

theorem BF.start (q : Nat → Nat) (l : Nat → Nat) (h : q 0 = s) (h0 : l s = 0) : BF E s 1 0 q l (fun _ => False) := by
  refine ⟨Nat.le_refl _, by omega, h, h0, fun a b ha hb _ => by omega, fun a b hab hb => ?_, fun a ha _ => ?_, fun a ha => absurd ha (by omega), fun _ w hw => absurd hw id, fun a ha hm => absurd ha (by omega)⟩
  · rw [show a = b by omega]; exact Nat.le_refl _
  · rw [show a = 0 by omega]; omega

theorem BF.skip (h : BF E s m i q l C) {w b : Nat} (hb : b < m) (hw : q b = w) : BF E s m i q l (fun x => C x ∨ x = w) :=
  ⟨h.m1, h.im, h.q0, h.l0, h.inj, h.sorted, h.near, h.done, fun hi x hx => by
    rcases hx with hx | rfl
    · exact h.cur hi x hx
    · exact ⟨b, hb, hw, by rw [← hw]; exact h.near b hb hi⟩, h.par⟩

theorem BF.push (h : BF E s m i q l C) (hi : i < m) {w : Nat} (he : E (q i) w) (hw : ∀ b, b < m → q b ≠ w) :
    BF E s (m + 1) i (upd q m w) (upd l w (l (q i) + 1)) (fun x => C x ∨ x = w) := by
  have hq : ∀ a, a < m → upd q m w a = q a := fun a ha => upd_other _ _ (by omega)
  have hl : ∀ a, a < m → upd l w (l (q i) + 1) (q a) = l (q a) := fun a ha => upd_other _ _ (hw a ha)
  have hs : s ≠ w := fun e => hw 0 (by have := h.m1; omega) (by rw [h.q0, e])
  have hm1 := h.m1
  refine ⟨by omega, by omega, ?_, ?_, fun a b ha hb e => ?_, fun a b hab hb => ?_, fun a ha _ => ?_, fun a ha x hx => ?_, fun _ x hx => ?_, fun a ha hm => ?_⟩
  · rw [hq 0 (by omega)]; exact h.q0
  · rw [upd_other _ _ hs]; exact h.l0
  · by_cases ea : a = m
    · by_cases eb : b = m
      · omega
      · subst ea
        rw [upd_same, hq b (by omega)] at e
        exact absurd e.symm (hw b (by omega))
    · by_cases eb : b = m
      · subst eb
        rw [upd_same, hq a (by omega)] at e
        exact absurd e (hw a (by omega))
      · rw [hq a (by omega), hq b (by omega)] at e
        exact h.inj a b (by omega) (by omega) e
  · by_cases eb : b = m
    · subst eb
      rw [upd_same, upd_same]
      by_cases ea : a = b
      · subst ea; rw [upd_same, upd_same]; exact Nat.le_refl _
      · rw [hq a (by omega), hl a (by omega)]
        exact h.near a (by omega) hi
    · rw [hq a (by omega), hq b (by omega), hl a (by omega), hl b (by omega)]
      exact h.sorted a b hab (by omega)
  · rw [hq i hi, hl i hi]
    by_cases ea : a = m
    · subst ea; rw [upd_same, upd_same]; exact Nat.le_refl _
    · rw [hq a (by omega), hl a (by omega)]
      exact h.near a (by omega) hi
  · rw [hq a (by omega)] at hx
    obtain ⟨b, h1, h2, h3⟩ := h.done a ha x hx
    refine ⟨b, by omega, by rw [hq b h1]; exact h2, ?_⟩
    rw [hq a (by omega), hl a (by omega), ← h2, hl b h1, h2]; exact h3
  · rw [hq i hi, hl i hi]
    rcases hx with hx | rfl
    · obtain ⟨b, h1, h2, h3⟩ := h.cur hi x hx
      refine ⟨b, by omega, by rw [hq b h1]; exact h2, ?_⟩
      rw [← h2, hl b h1, h2]; exact h3
    · exact ⟨m, by omega, upd_same _ _ _, by rw [upd_same]; exact Nat.le_refl _⟩
  · by_cases ea : a = m
    · subst ea
      exact ⟨i, hi, by rw [hq i hi, upd_same]; exact he, by rw [upd_same, upd_same, hq i hi, hl i hi]⟩
    · obtain ⟨b, h1, h2, h3⟩ := h.par a ha (by omega)
      exact ⟨b, h1, by rw [hq a (by omega), hq b (by omega)]; exact h2, by rw [hq a (by omega), hq b (by omega), hl a (by omega), hl b (by omega)]; exact h3⟩

theorem BF.next (h : BF E s m i q l C) (hi : i < m) (hC : ∀ w, E (q i) w → C w) : BF E s m (i + 1) q l (fun _ => False) :=
  ⟨h.m1, by omega, h.q0, h.l0, h.inj, h.sorted, fun a ha hi' => by have := h.near a ha hi; have := h.sorted i (i + 1) (by omega) hi'; omega,
   fun a ha w hw => by
    by_cases e : a = i
    · subst e; exact h.cur hi w (hC w hw)
    · exact h.done a (by omega) w hw, fun _ w hw => absurd hw id, h.par⟩

/-- What the queue holds is reached, by a walk of its level. -/
theorem BF.walk (h : BF E s m i q l C) : ∀ k a, a ≤ k → a < m → W E (l (q a)) s (q a) := by
  intro k
  induction k with
  | zero =>
    intro a ha hm
    rw [show a = 0 by omega, h.q0, h.l0]
    rfl
  | succ k ih =>
    intro a ha hm
    by_cases e : a = 0
    · rw [e, h.q0, h.l0]; rfl
    · obtain ⟨b, h1, h2, h3⟩ := h.par a (by omega) hm
      rw [h3]
      exact W.snoc (ih b (by omega) (by omega)) h2

/-- All done: what is reached is in the queue, no later than the walk's length. -/
theorem BF.all (h : BF E s m i q l C) (hi : i = m) : ∀ c u v a, a < m → q a = u → W E c u v → ∃ b, b < m ∧ q b = v ∧ l v ≤ l u + c := by
  intro c
  induction c with
  | zero =>
    intro u v a ha hu hw
    have hw : u = v := hw
    subst hw
    exact ⟨a, ha, hu, by omega⟩
  | succ c ih =>
    intro u v a ha hu hw
    obtain ⟨x, h1, h2⟩ := hw
    obtain ⟨b, h3, h4, h5⟩ := h.done a (by omega) x (by rw [hu]; exact h1)
    obtain ⟨b', h6, h7, h8⟩ := ih x v b h3 h4 h2
    rw [hu] at h5
    exact ⟨b', h6, h7, by omega⟩
end

/-- What a search backward leaves: the distances to s. -/
def IsDist (E : Nat → Nat → Prop) (n s : Nat) (d : Nat → Int) : Prop :=
  ∀ v, v < n → (d v = -1 ∧ ∀ c, ¬ W E c v s) ∨ ∃ c : Nat, d v = c ∧ W E c v s ∧ ∀ c', W E c' v s → c ≤ c'

theorem isDist_of {E : Nat → Nat → Prop} {s m n : Nat} {q l : Nat → Nat} {C : Nat → Prop} {d : Nat → Int} (h : BF (fun a b => E b a) s m m q l C)
    (hd : ∀ v, v < n → (d v = -1 ∧ ∀ b, b < m → q b ≠ v) ∨ (d v = l v ∧ ∃ b, b < m ∧ q b = v)) : IsDist E n s d := by
  intro v hv
  rcases hd v hv with ⟨h1, h2⟩ | ⟨h1, b, h2, h3⟩
  · refine Or.inl ⟨h1, fun c hc => ?_⟩
    obtain ⟨b, h4, h5, _⟩ := h.all rfl c s v 0 (by have := h.m1; omega) h.q0 hc.rev
    exact h2 b h4 h5
  · refine Or.inr ⟨l v, h1, ?_, fun c' hc => ?_⟩
    · have := (h.walk b b (Nat.le_refl _) h2).rev
      rw [h3] at this
      exact this
    · obtain ⟨b', h4, h5, h6⟩ := h.all rfl c' s v 0 (by have := h.m1; omega) h.q0 hc.rev
      rw [h.l0] at h6
      omega
end Gr
end Go.Proofs.Qxb6601852a

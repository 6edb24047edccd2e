/-
  The plain law of the middle snake, first part: ways through the edit graph. No Go in sight.
-/
import Derived.KernelRfl
namespace Go.Proofs.Qxb6601687a.My

/-- A run of equal lines from (px, py) to (x, y). -/
def Sn (eq : Int → Int → Bool) (n m px py x y : Int) : Prop :=
  ∃ t : Nat, x = px + t ∧ y = py + t ∧ ∀ i : Nat, i < t → px + i < n ∧ py + i < m ∧ eq (px + i) (py + i) = true
/-- (x, y) is reached from (0, 0) by a way of c edits. -/
def R (eq : Int → Int → Bool) (n m : Int) : Nat → Int → Int → Prop
  | 0, x, y => Sn eq n m 0 0 x y
  | c + 1, x, y => ∃ qx qy, R eq n m c qx qy ∧ ((qx < n ∧ Sn eq n m (qx + 1) qy x y) ∨ (qy < m ∧ Sn eq n m qx (qy + 1) x y))
/-- (n, m) is reached from (x, y) by a way of c edits. -/
def R' (eq : Int → Int → Bool) (n m : Int) : Nat → Int → Int → Prop
  | 0, x, y => Sn eq n m x y n m
  | c + 1, x, y => ∃ px py, Sn eq n m x y px py ∧ ((px < n ∧ R' eq n m c (px + 1) py) ∨ (py < m ∧ R' eq n m c px (py + 1)))

section
variable {eq : Int → Int → Bool} {n m : Int}

theorem Sn.refl (x y : Int) : Sn eq n m x y x y := ⟨0, by simp, by simp, fun i hi => absurd hi (by omega)⟩
theorem Sn.trans {a b c d e f : Int} (h : Sn eq n m a b c d) (k : Sn eq n m c d e f) : Sn eq n m a b e f := by
  obtain ⟨t, rfl, rfl, ht⟩ := h
  obtain ⟨s, rfl, rfl, hs⟩ := k
  refine ⟨t + s, by omega, by omega, fun i hi => ?_⟩
  by_cases h : i < t
  · exact ht i h
  · have := hs (i - t) (by omega)
    rw [show a + (t : Int) + ((i - t : Nat) : Int) = a + i by omega, show b + (t : Int) + ((i - t : Nat) : Int) = b + i by omega] at this
    exact this
theorem Sn.diag {a b c d : Int} (h : Sn eq n m a b c d) : c - d = a - b := by obtain ⟨t, rfl, rfl, _⟩ := h; omega
theorem Sn.le {a b c d : Int} (h : Sn eq n m a b c d) : a ≤ c ∧ b ≤ d := by obtain ⟨t, rfl, rfl, _⟩ := h; omega
theorem Sn.inside {a b c d : Int} (h : Sn eq n m a b c d) (ha : a ≤ n) (hb : b ≤ m) : c ≤ n ∧ d ≤ m := by
  obtain ⟨t, rfl, rfl, ht⟩ := h
  cases t with
  | zero => simp; exact ⟨ha, hb⟩
  | succ t => have := ht t (by omega); omega

theorem R.inside (hn : 0 ≤ n) (hm : 0 ≤ m) : ∀ {c : Nat} {x y : Int}, R eq n m c x y → 0 ≤ x ∧ x ≤ n ∧ 0 ≤ y ∧ y ≤ m := by
  intro c
  induction c with
  | zero => intro x y h; have h1 := Sn.le h; have h2 := Sn.inside h hn hm; omega
  | succ c ih =>
    intro x y h
    obtain ⟨qx, qy, hq, h | h⟩ := h
    · have := ih hq; have h1 := Sn.le h.2; have h2 := Sn.inside h.2 (by omega) (by omega); omega
    · have := ih hq; have h1 := Sn.le h.2; have h2 := Sn.inside h.2 (by omega) (by omega); omega
theorem R.snake {c : Nat} {x y u v : Int} (h : R eq n m c x y) (k : Sn eq n m x y u v) : R eq n m c u v := by
  cases c with
  | zero => exact Sn.trans h k
  | succ c =>
    obtain ⟨qx, qy, hq, h | h⟩ := h
    · exact ⟨qx, qy, hq, .inl ⟨h.1, h.2.trans k⟩⟩
    · exact ⟨qx, qy, hq, .inr ⟨h.1, h.2.trans k⟩⟩
theorem R.right {c : Nat} {x y : Int} (h : R eq n m c x y) (hx : x < n) : R eq n m (c + 1) (x + 1) y := ⟨x, y, h, .inl ⟨hx, Sn.refl _ _⟩⟩
theorem R.down {c : Nat} {x y : Int} (h : R eq n m c x y) (hy : y < m) : R eq n m (c + 1) x (y + 1) := ⟨x, y, h, .inr ⟨hy, Sn.refl _ _⟩⟩
theorem R.diag : ∀ {c : Nat} {x y : Int}, R eq n m c x y → x - y ≤ c ∧ -(c : Int) ≤ x - y ∧ ∃ z : Int, x - y = c + 2 * z := by
  intro c
  induction c with
  | zero => intro x y h; have := Sn.diag h; exact ⟨by simp; omega, by simp; omega, 0, by simp; omega⟩
  | succ c ih =>
    intro x y h
    obtain ⟨qx, qy, hq, h | h⟩ := h
    · obtain ⟨h1, h2, z, h3⟩ := ih hq; have := Sn.diag h.2; exact ⟨by omega, by omega, z, by omega⟩
    · obtain ⟨h1, h2, z, h3⟩ := ih hq; have := Sn.diag h.2; exact ⟨by omega, by omega, z - 1, by omega⟩
theorem R'.snake {c : Nat} {x y u v : Int} (h : R' eq n m c u v) (k : Sn eq n m x y u v) : R' eq n m c x y := by
  cases c with
  | zero => exact Sn.trans k h
  | succ c =>
    obtain ⟨px, py, hs, h⟩ := h
    exact ⟨px, py, k.trans hs, h⟩
theorem R'.right {c : Nat} {x y : Int} (h : R' eq n m c (x + 1) y) (hx : x < n) : R' eq n m (c + 1) x y := ⟨x, y, Sn.refl _ _, .inl ⟨hx, h⟩⟩
theorem R'.down {c : Nat} {x y : Int} (h : R' eq n m c x (y + 1)) (hy : y < m) : R' eq n m (c + 1) x y := ⟨x, y, Sn.refl _ _, .inr ⟨hy, h⟩⟩
theorem R'.diag : ∀ {c : Nat} {x y : Int}, R' eq n m c x y → (x - y) - (n - m) ≤ c ∧ -(c : Int) ≤ (x - y) - (n - m) := by
  intro c
  induction c with
  | zero => intro x y h; have := Sn.diag h; exact ⟨by simp; omega, by simp; omega⟩
  | succ c ih =>
    intro x y h
    obtain ⟨px, py, hs, h | h⟩ := h
    · have := ih h.2; have := Sn.diag hs; exact ⟨by omega, by omega⟩
    · have := ih h.2; have := Sn.diag hs; exact ⟨by omega, by omega⟩
theorem R'.inside : ∀ {c : Nat} {x y : Int}, R' eq n m c x y → x ≤ n ∧ y ≤ m := by
  intro c
  induction c with
  | zero => intro x y h; exact Sn.le h
  | succ c ih =>
    intro x y h
    obtain ⟨px, py, hs, h | h⟩ := h
    · have := ih h.2; have := Sn.le hs; omega
    · have := ih h.2; have := Sn.le hs; omega
/-- Two halves make a whole. -/
theorem join : ∀ {b c : Nat} {x y : Int}, R eq n m c x y → R' eq n m b x y → R eq n m (c + b) n m := by
  intro b
  induction b with
  | zero => intro c x y h k; exact h.snake k
  | succ b ih =>
    intro c x y h k
    obtain ⟨px, py, hs, k | k⟩ := k
    · have := ih ((h.snake hs).right k.1) k.2
      rwa [show c + (b + 1) = c + 1 + b by omega]
    · have := ih ((h.snake hs).down k.1) k.2
      rwa [show c + (b + 1) = c + 1 + b by omega]
theorem split' : ∀ {b c b0 : Nat} {x y : Int}, R eq n m (c + b) x y → R' eq n m b0 x y → ∃ u v, R eq n m c u v ∧ R' eq n m (b0 + b) u v := by
  intro b
  induction b with
  | zero => intro c b0 x y h k; exact ⟨x, y, h, k⟩
  | succ b ih =>
    intro c b0 x y h k
    obtain ⟨qx, qy, hq, h | h⟩ := h
    · obtain ⟨u, v, h1, h2⟩ := ih hq ((k.snake h.2).right h.1)
      exact ⟨u, v, h1, by rwa [show b0 + (b + 1) = b0 + 1 + b by omega]⟩
    · obtain ⟨u, v, h1, h2⟩ := ih hq ((k.snake h.2).down h.1)
      exact ⟨u, v, h1, by rwa [show b0 + (b + 1) = b0 + 1 + b by omega]⟩
theorem split {b c : Nat} (h : R eq n m (c + b) n m) : ∃ u v, R eq n m c u v ∧ R' eq n m b u v := by
  obtain ⟨u, v, h1, h2⟩ := split' (b0 := 0) h (Sn.refl _ _)
  exact ⟨u, v, h1, by rwa [Nat.zero_add] at h2⟩

/-- Straight on along a border. -/
theorem R.rights : ∀ {t c : Nat} {x y : Int}, R eq n m c x y → x + t ≤ n → R eq n m (c + t) (x + t) y := by
  intro t
  induction t with
  | zero => intro c x y h _; simpa using h
  | succ t ih =>
    intro c x y h hx
    have := (ih h (by omega)).right (by omega)
    rw [show c + (t + 1) = c + t + 1 by omega, show x + ((t + 1 : Nat) : Int) = x + t + 1 by omega]
    exact this
theorem R.downs : ∀ {t c : Nat} {x y : Int}, R eq n m c x y → y + t ≤ m → R eq n m (c + t) x (y + t) := by
  intro t
  induction t with
  | zero => intro c x y h _; simpa using h
  | succ t ih =>
    intro c x y h hy
    have := (ih h (by omega)).down (by omega)
    rw [show c + (t + 1) = c + t + 1 by omega, show y + ((t + 1 : Nat) : Int) = y + t + 1 by omega]
    exact this
theorem R.start : R eq n m 0 0 0 := Sn.refl _ _
/-- The way along the borders. -/
theorem R.whole (hn : 0 ≤ n) (hm : 0 ≤ m) : R eq n m (n.toNat + m.toNat) n m := by
  have h := (R.start (eq := eq) (n := n) (m := m)).rights (t := n.toNat) (by omega)
  have h2 := h.downs (t := m.toNat) (by omega)
  rw [show (0 : Int) + (n.toNat : Int) = n by omega, show (0 : Int) + (m.toNat : Int) = m by omega, Nat.zero_add] at h2
  exact h2

theorem least {p : Nat → Prop} (h : ∃ k, p k) : ∃ k, p k ∧ ∀ j, p j → k ≤ j := by
  obtain ⟨k, hk⟩ := h
  induction k using Nat.strongRecOn with
  | ind k ih =>
    by_cases q : ∃ j, j < k ∧ p j
    · obtain ⟨j, hj, hp⟩ := q
      exact ih j hj hp
    · exact ⟨k, hk, fun j hj => by by_cases hlt : j < k; exact absurd ⟨j, hlt, hj⟩ q; omega⟩

/-- D is the edit distance. -/
def Dist (eq : Int → Int → Bool) (n m : Int) (D : Nat) : Prop := R eq n m D n m ∧ ∀ d, R eq n m d n m → D ≤ d
theorem Dist.some (hn : 0 ≤ n) (hm : 0 ≤ m) : ∃ D, Dist eq n m D := least ⟨_, R.whole hn hm⟩
theorem Dist.le {D : Nat} (h : Dist eq n m D) (hn : 0 ≤ n) (hm : 0 ≤ m) : (D : Int) ≤ n + m := by
  have := h.2 _ (R.whole hn hm); omega
theorem Dist.par {D : Nat} (h : Dist eq n m D) : ∃ z : Int, n - m = D + 2 * z := (R.diag h.1).2.2
theorem zero_only (h0 : eq 0 0 = false) {x y : Int} (h : R eq n m 0 x y) : x = 0 ∧ y = 0 := by
  obtain ⟨t, rfl, rfl, ht⟩ := h
  cases t with
  | zero => simp
  | succ t => have := (ht 0 (by omega)).2.2; simp [h0] at this
theorem Dist.two {D : Nat} (h : Dist eq n m D) (hn : 1 ≤ n) (hm : 1 ≤ m) (h0 : eq 0 0 = false) (h1 : eq (n - 1) (m - 1) = false) : 2 ≤ D := by
  match D, h with
  | 0, h => have := zero_only h0 h.1; omega
  | 1, h =>
    obtain ⟨qx, qy, hq, k | k⟩ := h.1
    · obtain ⟨rfl, rfl⟩ := zero_only h0 hq
      obtain ⟨t, e1, e2, ht⟩ := k.2
      have := (ht (t - 1) (by omega)).2.2
      rw [show (0 : Int) + 1 + ((t - 1 : Nat) : Int) = n - 1 by omega, show (0 : Int) + ((t - 1 : Nat) : Int) = m - 1 by omega, h1] at this
      exact absurd this (by simp)
    · obtain ⟨rfl, rfl⟩ := zero_only h0 hq
      obtain ⟨t, e1, e2, ht⟩ := k.2
      have := (ht (t - 1) (by omega)).2.2
      rw [show (0 : Int) + ((t - 1 : Nat) : Int) = n - 1 by omega, show (0 : Int) + 1 + ((t - 1 : Nat) : Int) = m - 1 by omega, h1] at this
      exact absurd this (by simp)
  | D + 2, _ => omega

/-! ### The four borders: a way that has come to one can't turn away from the end without losing two edits. -/
theorem Dist.off_right {D : Nat} (h : Dist eq n m D) {c c' : Nat} {k : Int} (hc : c' ≤ c) (hf : R eq n m c' n (n - k)) (hy : n - k ≤ m) {u v : Int} (hb : R' eq n m (D - (c + 1)) u v) (hcD : c + 1 ≤ D) (huv : u - v = k + 1) : False := by
  have h1 := hf.downs (t := (m - (n - k)).toNat) (by omega)
  rw [show n - k + ((m - (n - k)).toNat : Int) = m by omega] at h1
  have h2 := h.2 _ h1
  have h3 := R'.diag hb
  omega
theorem Dist.off_down {D : Nat} (h : Dist eq n m D) {c c' : Nat} {k : Int} (hc : c' ≤ c) (hf : R eq n m c' (m + k) m) (hx : m + k ≤ n) {u v : Int} (hb : R' eq n m (D - (c + 1)) u v) (hcD : c + 1 ≤ D) (huv : u - v = k - 1) : False := by
  have h1 := hf.rights (t := (n - (m + k)).toNat) (by omega)
  rw [show m + k + ((n - (m + k)).toNat : Int) = n by omega] at h1
  have h2 := h.2 _ h1
  have h3 := R'.diag hb
  omega
theorem Dist.off_left {D : Nat} (h : Dist eq n m D) {c c' : Nat} {k : Int} (hc : c' ≤ c) (hf : R' eq n m c' 0 (0 - k)) (hy : 0 ≤ 0 - k) (hym : 0 - k ≤ m) {u v : Int} (hb : R eq n m (D - (c + 1)) u v) (hcD : c + 1 ≤ D) (huv : u - v = k - 1) : False := by
  have h1 := (R.start (eq := eq) (n := n) (m := m)).downs (t := (0 - k).toNat) (by omega)
  rw [show (0 : Int) + ((0 - k).toNat : Int) = 0 - k by omega] at h1
  have h2 := h.2 _ (join h1 hf)
  have h3 := R.diag hb
  omega
theorem Dist.off_up {D : Nat} (h : Dist eq n m D) {c c' : Nat} {k : Int} (hc : c' ≤ c) (hf : R' eq n m c' k 0) (hx : 0 ≤ k) (hxn : k ≤ n) {u v : Int} (hb : R eq n m (D - (c + 1)) u v) (hcD : c + 1 ≤ D) (huv : u - v = k + 1) : False := by
  have h1 := (R.start (eq := eq) (n := n) (m := m)).rights (t := k.toNat) (by omega)
  rw [show (0 : Int) + (k.toNat : Int) = k by omega] at h1
  have h2 := h.2 _ (join h1 hf)
  have h3 := R.diag hb
  omega
end
end Go.Proofs.Qxb6601687a.My

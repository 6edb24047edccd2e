/-
  The plain law of the middle snake, second part: the two searches, as functions of diagonals; they meet; what they return splits the problem.
-/
import Derived.Test.Qxb6601687aReach
namespace Go.Proofs.Qxb6601687a.My

def upd (F : Int → Int) (k v : Int) : Int → Int := fun j => if j = k then v else F j
theorem upd_same (F : Int → Int) (k v : Int) : upd F k v k = v := by simp [upd]
theorem upd_other (F : Int → Int) {k j : Int} (v : Int) (h : j ≠ k) : upd F k v j = F j := by simp [upd, h]

/-- Where the forward search's next way on diagonal k begins behind its edit; below 0: nowhere. -/
def cand (n m c : Int) (F : Int → Int) (k : Int) : Int :=
  if -c < k ∧ 0 ≤ F (k - 1) ∧ F (k - 1) < n then
    max (if k < c ∧ 0 ≤ F (k + 1) ∧ F (k + 1) - (k + 1) < m then F (k + 1) else if c = 0 then 0 else -1) (F (k - 1) + 1)
  else if k < c ∧ 0 ≤ F (k + 1) ∧ F (k + 1) - (k + 1) < m then F (k + 1) else if c = 0 then 0 else -1
def adv (eq : Int → Int → Bool) (n m k : Int) : Nat → Int → Int
  | 0, x => x
  | g + 1, x => if x < n ∧ x - k < m ∧ eq x (x - k) = true then adv eq n m k g (x + 1) else x
def advTo (eq : Int → Int → Bool) (n m k x : Int) : Int := adv eq n m k (n - x).toNat x
/-- Where the backward search's next way on diagonal k ends ahead of its edit; beyond n: nowhere. -/
def candB (n c : Int) (dl : Int) (B : Int → Int) (k : Int) : Int :=
  if dl - c < k ∧ 0 ≤ B (k - 1) ∧ 0 < B (k - 1) - (k - 1) then
    min (if k < dl + c ∧ 0 < B (k + 1) then B (k + 1) - 1 else if c = 0 then n else n + 1) (B (k - 1))
  else if k < dl + c ∧ 0 < B (k + 1) then B (k + 1) - 1 else if c = 0 then n else n + 1
def ret (eq : Int → Int → Bool) (k : Int) : Nat → Int → Int
  | 0, x => x
  | g + 1, x => if 0 < x ∧ 0 < x - k ∧ eq (x - 1) (x - k - 1) = true then ret eq k g (x - 1) else x
def retTo (eq : Int → Int → Bool) (k x : Int) : Int := ret eq k x.toNat x

abbrev Q4 := Option (Int × Int × Int × Int)

def fwdK (eq : Int → Int → Bool) (n m : Int) (c : Int) (B : Int → Int) (k : Int) (F : Int → Int) : Q4 × (Int → Int) :=
  if (k + c) % 2 ≠ 0 then (none, F)
  else if cand n m c F k < 0 then (none, F)
  else
    (if (n - m) % 2 ≠ 0 ∧ (n - m) - (c - 1) ≤ k ∧ k ≤ (n - m) + (c - 1) ∧ 0 ≤ B k ∧ B k ≤ advTo eq n m k (cand n m c F k)
      then some (cand n m c F k, cand n m c F k - k, advTo eq n m k (cand n m c F k), advTo eq n m k (cand n m c F k) - k) else none,
     upd F k (max (F k) (advTo eq n m k (cand n m c F k))))
def fwdL (eq : Int → Int → Bool) (n m : Int) (c : Int) (B : Int → Int) (lo : Int) : Nat → Int → (Int → Int) → Q4 × (Int → Int)
  | 0, _, F => (none, F)
  | g + 1, k, F => if k < lo then (none, F) else
      match (fwdK eq n m c B k F).1 with
      | some r => (some r, (fwdK eq n m c B k F).2)
      | none => fwdL eq n m c B lo g (k - 1) (fwdK eq n m c B k F).2
def bwdK (eq : Int → Int → Bool) (n m : Int) (c : Int) (F : Int → Int) (k : Int) (B : Int → Int) : Q4 × (Int → Int) :=
  if (k - (n - m) + c) % 2 ≠ 0 then (none, B)
  else if n < candB n c (n - m) B k then (none, B)
  else
    (if (n - m) % 2 = 0 ∧ -c ≤ k ∧ k ≤ c ∧ retTo eq k (candB n c (n - m) B k) ≤ F k
      then some (retTo eq k (candB n c (n - m) B k), retTo eq k (candB n c (n - m) B k) - k, candB n c (n - m) B k, candB n c (n - m) B k - k) else none,
     if B k < 0 ∨ retTo eq k (candB n c (n - m) B k) < B k then upd B k (retTo eq k (candB n c (n - m) B k)) else B)
def bwdL (eq : Int → Int → Bool) (n m : Int) (c : Int) (F : Int → Int) (lo : Int) : Nat → Int → (Int → Int) → Q4 × (Int → Int)
  | 0, _, B => (none, B)
  | g + 1, k, B => if k < lo then (none, B) else
      match (bwdK eq n m c F k B).1 with
      | some r => (some r, (bwdK eq n m c F k B).2)
      | none => bwdL eq n m c F lo g (k - 1) (bwdK eq n m c F k B).2
def fHi (n c : Int) : Int := min c n
def fLo (m c : Int) : Int := max (-c) (-m)
def bHi (n m c : Int) : Int := min ((n - m) + c) n
def bLo (n m c : Int) : Int := max ((n - m) - c) (-m)
def fwdP (eq : Int → Int → Bool) (n m c : Int) (B F : Int → Int) : Q4 × (Int → Int) := fwdL eq n m c B (fLo m c) (fHi n c - fLo m c + 1).toNat (fHi n c) F
def bwdP (eq : Int → Int → Bool) (n m c : Int) (F B : Int → Int) : Q4 × (Int → Int) := bwdL eq n m c F (bLo n m c) (bHi n m c - bLo n m c + 1).toNat (bHi n m c) B
def cL (eq : Int → Int → Bool) (n m : Int) : Nat → Int → (Int → Int) → (Int → Int) → Q4
  | 0, _, _, _ => none
  | g + 1, c, F, B => if (n + m + 1) / 2 < c then none else
      match (fwdP eq n m c B F).1 with
      | some r => some r
      | none =>
        match (bwdP eq n m c (fwdP eq n m c B F).2 B).1 with
        | some r => some r
        | none => cL eq n m g (c + 1) (fwdP eq n m c B F).2 (bwdP eq n m c (fwdP eq n m c B F).2 B).2
def snakeOf (eq : Int → Int → Bool) (n m : Int) : Q4 := cL eq n m ((n + m + 1) / 2 + 1).toNat 0 (fun _ => -1) (fun _ => -1)

section
variable {eq : Int → Int → Bool} {n m : Int}

/-! ### runs -/
theorem adv_sn (k : Int) : ∀ (g : Nat) (x : Int), Sn eq n m x (x - k) (adv eq n m k g x) (adv eq n m k g x - k) := by
  intro g
  induction g with
  | zero => intro x; exact Sn.refl _ _
  | succ g ih =>
    intro x
    rw [adv]
    split
    · rename_i h
      have h1 : Sn eq n m x (x - k) (x + 1) (x + 1 - k) := ⟨1, rfl, by omega, fun i hi => by
        obtain rfl : i = 0 := by omega
        simpa using h⟩
      exact h1.trans (ih (x + 1))
    · exact Sn.refl _ _
theorem adv_far (k : Int) {px py u v : Int} (hs : Sn eq n m px py u v) (hk : u - v = k) : ∀ (g : Nat) (x : Int), n - x ≤ g → px ≤ x → u ≤ adv eq n m k g x := by
  obtain ⟨t, rfl, rfl, ht⟩ := hs
  intro g
  induction g with
  | zero =>
    intro x hg hx
    rw [adv]
    by_cases h : px + t ≤ x
    · exact h
    · have := ht (x - px).toNat (by omega); omega
  | succ g ih =>
    intro x hg hx
    rw [adv]
    split
    · exact ih (x + 1) (by omega) (by omega)
    · rename_i hno
      by_cases h : px + t ≤ x
      · exact h
      · have := ht (x - px).toNat (by omega)
        rw [show px + ((x - px).toNat : Int) = x by omega, show py + ((x - px).toNat : Int) = x - k by omega] at this
        exact absurd this hno
theorem ret_sn (k : Int) : ∀ (g : Nat) (x : Int), x ≤ n → x - k ≤ m → Sn eq n m (ret eq k g x) (ret eq k g x - k) x (x - k) := by
  intro g
  induction g with
  | zero => intro x _ _; exact Sn.refl _ _
  | succ g ih =>
    intro x hx hy
    rw [ret]
    split
    · rename_i h
      have h1 : Sn eq n m (x - 1) (x - 1 - k) x (x - k) := ⟨1, by omega, by omega, fun i hi => by
        obtain rfl : i = 0 := by omega
        refine ⟨by omega, by omega, ?_⟩
        rw [show x - 1 + ((0 : Nat) : Int) = x - 1 by omega, show x - 1 - k + ((0 : Nat) : Int) = x - k - 1 by omega]
        exact h.2.2⟩
      exact (ih (x - 1) (by omega) (by omega)).trans h1
    · exact Sn.refl _ _
theorem ret_pos (k : Int) : ∀ (g : Nat) (x : Int), 0 ≤ x → 0 ≤ x - k → 0 ≤ ret eq k g x ∧ 0 ≤ ret eq k g x - k := by
  intro g
  induction g with
  | zero => intro x h1 h2; exact ⟨h1, h2⟩
  | succ g ih =>
    intro x h1 h2
    rw [ret]
    split
    · exact ih (x - 1) (by omega) (by omega)
    · exact ⟨h1, h2⟩
theorem ret_far (k : Int) {u v px py : Int} (hs : Sn eq n m u v px py) (hk : u - v = k) (hu : 0 ≤ u) (hv : 0 ≤ v) : ∀ (g : Nat) (x : Int), x ≤ g → x ≤ px → ret eq k g x ≤ u := by
  obtain ⟨t, rfl, rfl, ht⟩ := hs
  intro g
  induction g with
  | zero =>
    intro x hg hx
    rw [ret]
    omega
  | succ g ih =>
    intro x hg hx
    rw [ret]
    split
    · exact ih (x - 1) (by omega) (by omega)
    · rename_i hno
      by_cases h : x ≤ u
      · exact h
      · have := (ht (x - 1 - u).toNat (by omega)).2.2
        rw [show u + ((x - 1 - u).toNat : Int) = x - 1 by omega, show v + ((x - 1 - u).toNat : Int) = x - k - 1 by omega] at this
        exact absurd ⟨by omega, by omega, this⟩ hno

/-! ### what the two rows hold -/
def FS (eq : Int → Int → Bool) (n m : Int) (C : Nat) (F : Int → Int) : Prop :=
  ∀ k, F k = -1 ∨ (0 ≤ F k ∧ F k ≤ n ∧ 0 ≤ F k - k ∧ F k - k ≤ m ∧ ∃ c', c' ≤ C ∧ R eq n m c' (F k) (F k - k))
def FC (eq : Int → Int → Bool) (n m : Int) (D c : Nat) (F : Int → Int) : Prop := ∀ x y, R eq n m c x y → R' eq n m (D - c) x y → x ≤ F (x - y)
def BS (eq : Int → Int → Bool) (n m : Int) (C : Nat) (B : Int → Int) : Prop :=
  ∀ k, B k = -1 ∨ (0 ≤ B k ∧ B k ≤ n ∧ 0 ≤ B k - k ∧ B k - k ≤ m ∧ ∃ c', c' ≤ C ∧ R' eq n m c' (B k) (B k - k))
def BC (eq : Int → Int → Bool) (n m : Int) (D c : Nat) (B : Int → Int) : Prop := ∀ x y, R' eq n m c x y → R eq n m (D - c) x y → 0 ≤ B (x - y) ∧ B (x - y) ≤ x
def Good (n m : Int) (r : Int × Int × Int × Int) : Prop :=
  0 ≤ r.1 ∧ r.1 ≤ r.2.2.1 ∧ r.2.2.1 ≤ n ∧ 0 ≤ r.2.1 ∧ r.2.1 ≤ r.2.2.2 ∧ r.2.2.2 ≤ m ∧ ¬ (r.1 = n ∧ r.2.1 = m) ∧ ¬ (r.2.2.1 = 0 ∧ r.2.2.2 = 0)

theorem FS.mono {C C' : Nat} {F : Int → Int} (h : FS eq n m C F) (hC : C ≤ C') : FS eq n m C' F := fun k => by
  rcases h k with h | ⟨h1, h2, h3, h4, c', h5, h6⟩
  · exact .inl h
  · exact .inr ⟨h1, h2, h3, h4, c', by omega, h6⟩
theorem BS.mono {C C' : Nat} {B : Int → Int} (h : BS eq n m C B) (hC : C ≤ C') : BS eq n m C' B := fun k => by
  rcases h k with h | ⟨h1, h2, h3, h4, c', h5, h6⟩
  · exact .inl h
  · exact .inr ⟨h1, h2, h3, h4, c', by omega, h6⟩

/-! ### the candidates -/
theorem cand_cases (c : Int) (F : Int → Int) (k : Int) : (cand n m c F k = if c = 0 then 0 else -1) ∨ (k < c ∧ 0 ≤ F (k + 1) ∧ F (k + 1) - (k + 1) < m ∧ cand n m c F k = F (k + 1)) ∨ (-c < k ∧ 0 ≤ F (k - 1) ∧ F (k - 1) < n ∧ cand n m c F k = F (k - 1) + 1) := by
  unfold cand
  by_cases h1 : -c < k ∧ 0 ≤ F (k - 1) ∧ F (k - 1) < n
  · rw [if_pos h1]
    by_cases h2 : k < c ∧ 0 ≤ F (k + 1) ∧ F (k + 1) - (k + 1) < m
    · rw [if_pos h2]
      by_cases h3 : F (k + 1) ≤ F (k - 1) + 1
      · exact .inr (.inr ⟨h1.1, h1.2.1, h1.2.2, by omega⟩)
      · exact .inr (.inl ⟨h2.1, h2.2.1, h2.2.2, by omega⟩)
    · rw [if_neg h2]
      refine .inr (.inr ⟨h1.1, h1.2.1, h1.2.2, ?_⟩)
      split <;> omega
  · rw [if_neg h1]
    by_cases h2 : k < c ∧ 0 ≤ F (k + 1) ∧ F (k + 1) - (k + 1) < m
    · rw [if_pos h2]; exact .inr (.inl ⟨h2.1, h2.2.1, h2.2.2, rfl⟩)
    · rw [if_neg h2]; exact .inl rfl
theorem cand_down {c : Int} {F : Int → Int} {k : Int} (h : k < c ∧ 0 ≤ F (k + 1) ∧ F (k + 1) - (k + 1) < m) : F (k + 1) ≤ cand n m c F k := by
  unfold cand
  rw [if_pos h]
  split <;> omega
theorem cand_right {c : Int} {F : Int → Int} {k : Int} (h : -c < k ∧ 0 ≤ F (k - 1) ∧ F (k - 1) < n) : F (k - 1) + 1 ≤ cand n m c F k := by
  unfold cand
  rw [if_pos h]
  omega
theorem candB_cases (c dl : Int) (B : Int → Int) (k : Int) : (candB n c dl B k = if c = 0 then n else n + 1) ∨ (k < dl + c ∧ 0 < B (k + 1) ∧ candB n c dl B k = B (k + 1) - 1) ∨ (dl - c < k ∧ 0 ≤ B (k - 1) ∧ 0 < B (k - 1) - (k - 1) ∧ candB n c dl B k = B (k - 1)) := by
  unfold candB
  by_cases h1 : dl - c < k ∧ 0 ≤ B (k - 1) ∧ 0 < B (k - 1) - (k - 1)
  · rw [if_pos h1]
    by_cases h2 : k < dl + c ∧ 0 < B (k + 1)
    · rw [if_pos h2]
      by_cases h3 : B (k - 1) ≤ B (k + 1) - 1
      · exact .inr (.inr ⟨h1.1, h1.2.1, h1.2.2, by omega⟩)
      · exact .inr (.inl ⟨h2.1, h2.2, by omega⟩)
    · rw [if_neg h2]
      by_cases h3 : B (k - 1) ≤ (if c = 0 then n else n + 1)
      · exact .inr (.inr ⟨h1.1, h1.2.1, h1.2.2, by omega⟩)
      · exact .inl (by omega)
  · rw [if_neg h1]
    by_cases h2 : k < dl + c ∧ 0 < B (k + 1)
    · rw [if_pos h2]; exact .inr (.inl ⟨h2.1, h2.2, rfl⟩)
    · rw [if_neg h2]; exact .inl rfl
theorem candB_left {c dl : Int} {B : Int → Int} {k : Int} (h : k < dl + c ∧ 0 < B (k + 1)) : candB n c dl B k ≤ B (k + 1) - 1 := by
  unfold candB
  rw [if_pos h]
  split <;> omega
theorem candB_up {c dl : Int} {B : Int → Int} {k : Int} (h : dl - c < k ∧ 0 ≤ B (k - 1) ∧ 0 < B (k - 1) - (k - 1)) : candB n c dl B k ≤ B (k - 1) := by
  unfold candB
  rw [if_pos h]
  omega

/-- What the forward candidate of pass c is: a point in the graph, behind at most c edits. -/
theorem cand_sound {c : Nat} {F : Int → Int} {k : Int} (hF : FS eq n m (c - 1) F) (hn : 0 ≤ n) (hm : 0 ≤ m) (h : 0 ≤ cand n m c F k) (hk : c = 0 → k = 0) :
    cand n m c F k ≤ n ∧ 0 ≤ cand n m c F k - k ∧ cand n m c F k - k ≤ m ∧ (1 ≤ c → 1 ≤ cand n m c F k + (cand n m c F k - k)) ∧ ∃ c', c' ≤ c ∧ R eq n m c' (cand n m c F k) (cand n m c F k - k) := by
  rcases cand_cases (n := n) (m := m) c F k with e | ⟨h1, h2, h3, e⟩ | ⟨h1, h2, h3, e⟩
  · rw [e] at h ⊢
    by_cases hc : (c : Int) = 0
    · rw [if_pos hc]
      have := hk (by omega)
      subst this
      exact ⟨by omega, by omega, by omega, by omega, 0, by omega, by simpa using R.start⟩
    · rw [if_neg hc] at h; omega
  · rw [e]
    rcases hF (k + 1) with q | ⟨q1, q2, q3, q4, c', q5, q6⟩
    · omega
    · have hc : 1 ≤ c := by have := (R.diag q6); omega
      have := q6.down h3
      rw [show F (k + 1) - (k + 1) + 1 = F (k + 1) - k by omega] at this
      exact ⟨by omega, by omega, by omega, by omega, c' + 1, by omega, this⟩
  · rw [e]
    rcases hF (k - 1) with q | ⟨q1, q2, q3, q4, c', q5, q6⟩
    · omega
    · have hc : 1 ≤ c := by have := (R.diag q6); omega
      have := q6.right h3
      rw [show F (k - 1) - (k - 1) = F (k - 1) + 1 - k by omega] at this
      exact ⟨by omega, by omega, by omega, by omega, c' + 1, by omega, this⟩

/-- The forward candidate lies no further back than where a shortest way comes in on the diagonal. -/
theorem cand_comp {D c : Nat} (hD : Dist eq n m D) {F : Int → Int} (hn : 0 ≤ n) (hm : 0 ≤ m) (hF : FS eq n m (c - 1) F) (hC : 1 ≤ c → FC eq n m D (c - 1) F) (hcD : c ≤ D) {u v : Int} (hu : R eq n m c u v) (hu' : R' eq n m (D - c) u v) :
    ∃ px py, Sn eq n m px py u v ∧ 0 ≤ px ∧ px ≤ cand n m c F (u - v) := by
  cases c with
  | zero =>
    have := Sn.diag hu
    refine ⟨0, 0, hu, by omega, ?_⟩
    unfold cand
    simp only [show u - v = 0 by omega, show ¬ (-((0 : Nat) : Int) < 0 ∧ 0 ≤ F (0 - 1) ∧ F (0 - 1) < n) by simp, if_false]
    simp
  | succ c =>
    simp only [Nat.add_sub_cancel] at hF hC
    obtain ⟨qx, qy, hq, h | h⟩ := hu
    · have dg := Sn.diag h.2
      have q' : R' eq n m (D - c) qx qy := by
        have := (hu'.snake h.2).right h.1
        rwa [show D - (c + 1) + 1 = D - c by omega] at this
      have hf := hC (by omega) qx qy hq q'
      have hin := R.inside hn hm hq
      have hdg := R.diag hq
      have ek : u - v - 1 = qx - qy := by omega
      refine ⟨qx + 1, qy, h.2, by omega, ?_⟩
      by_cases hfn : F (u - v - 1) < n
      · have := cand_right (n := n) (m := m) (c := ((c + 1 : Nat) : Int)) (F := F) (k := u - v) ⟨by omega, by rw [ek]; omega, hfn⟩
        rw [ek] at this
        omega
      · rcases hF (qx - qy) with e | ⟨e1, e2, e3, e4, c', e5, e6⟩
        · omega
        · have en : F (qx - qy) = n := by rw [ek] at hfn; omega
          rw [en] at e6 e4
          exact (hD.off_right (c := c) e5 e6 e4 hu' hcD (by omega)).elim
    · have dg := Sn.diag h.2
      have q' : R' eq n m (D - c) qx qy := by
        have := (hu'.snake h.2).down h.1
        rwa [show D - (c + 1) + 1 = D - c by omega] at this
      have hf := hC (by omega) qx qy hq q'
      have hin := R.inside hn hm hq
      have hdg := R.diag hq
      have ek : u - v + 1 = qx - qy := by omega
      refine ⟨qx, qy + 1, h.2, by omega, ?_⟩
      by_cases hfn : F (u - v + 1) - (u - v + 1) < m
      · have := cand_down (n := n) (m := m) (c := ((c + 1 : Nat) : Int)) (F := F) (k := u - v) ⟨by omega, by rw [ek]; omega, hfn⟩
        rw [ek] at this
        omega
      · rcases hF (qx - qy) with e | ⟨e1, e2, e3, e4, c', e5, e6⟩
        · omega
        · have en : F (qx - qy) = m + (qx - qy) := by rw [ek] at hfn; omega
          rw [en, show m + (qx - qy) - (qx - qy) = m by omega] at e6
          exact (hD.off_down (c := c) e5 e6 (by omega) hu' hcD (by omega)).elim
end
end Go.Proofs.Qxb6601687a.My

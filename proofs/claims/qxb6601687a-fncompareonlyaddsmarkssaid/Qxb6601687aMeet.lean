/-
  The plain law of the middle snake, third part: the passes; the two searches meet; what is returned splits the problem.
-/
import Derived.Test.Qxb6601687aMyers
namespace Go.Proofs.Qxb6601687a.My
section
variable {eq : Int → Int → Bool} {n m : Int}

theorem candB_sound {c : Nat} {B : Int → Int} {k : Int} (hB : BS eq n m (c - 1) B) (hn : 0 ≤ n) (hm : 0 ≤ m) (h : candB n c (n - m) B k ≤ n) (hk : c = 0 → k = n - m) :
    0 ≤ candB n c (n - m) B k ∧ 0 ≤ candB n c (n - m) B k - k ∧ candB n c (n - m) B k - k ≤ m ∧ (1 ≤ c → 1 ≤ (n - candB n c (n - m) B k) + (m - (candB n c (n - m) B k - k))) ∧ ∃ c', c' ≤ c ∧ R' eq n m c' (candB n c (n - m) B k) (candB n c (n - m) B k - k) := by
  rcases candB_cases (n := n) c (n - m) B k with e | ⟨h1, h2, e⟩ | ⟨h1, h2, h3, e⟩
  · rw [e] at h ⊢
    by_cases hc : (c : Int) = 0
    · rw [if_pos hc]
      have := hk (by omega)
      subst this
      refine ⟨by omega, by omega, by omega, by omega, 0, by omega, ?_⟩
      rw [show n - (n - m) = m by omega]
      exact Sn.refl _ _
    · rw [if_neg hc] at h; omega
  · rw [e]
    rcases hB (k + 1) with q | ⟨q1, q2, q3, q4, c', q5, q6⟩
    · omega
    · have hc : 1 ≤ c := by have := (R'.diag q6); omega
      have := R'.right (x := B (k + 1) - 1) (y := B (k + 1) - (k + 1)) (by rw [show B (k + 1) - 1 + 1 = B (k + 1) by omega]; exact q6) (by omega)
      rw [show B (k + 1) - (k + 1) = B (k + 1) - 1 - k by omega] at this
      exact ⟨by omega, by omega, by omega, by omega, c' + 1, by omega, this⟩
  · rw [e]
    rcases hB (k - 1) with q | ⟨q1, q2, q3, q4, c', q5, q6⟩
    · omega
    · have hc : 1 ≤ c := by have := (R'.diag q6); omega
      have := R'.down (x := B (k - 1)) (y := B (k - 1) - k) (by rw [show B (k - 1) - k + 1 = B (k - 1) - (k - 1) by omega]; exact q6) (by omega)
      exact ⟨by omega, by omega, by omega, by omega, c' + 1, by omega, this⟩

theorem candB_comp {D c : Nat} (hD : Dist eq n m D) {B : Int → Int} (hn : 0 ≤ n) (hm : 0 ≤ m) (hB : BS eq n m (c - 1) B) (hC : 1 ≤ c → BC eq n m D (c - 1) B) (hcD : c ≤ D) {u v : Int} (hu' : R' eq n m c u v) (hu : R eq n m (D - c) u v) :
    ∃ px py, Sn eq n m u v px py ∧ px ≤ n ∧ candB n c (n - m) B (u - v) ≤ px := by
  cases c with
  | zero =>
    have := Sn.diag hu'
    refine ⟨n, m, hu', by omega, ?_⟩
    unfold candB
    simp only [show u - v = n - m by omega, show ¬ (n - m - ((0 : Nat) : Int) < n - m ∧ 0 ≤ B (n - m - 1) ∧ 0 < B (n - m - 1) - (n - m - 1)) by simp, show ¬ (n - m < n - m + ((0 : Nat) : Int) ∧ 0 < B (n - m + 1)) by simp, if_false]
    simp
  | succ c =>
    simp only [Nat.add_sub_cancel] at hB hC
    have hin0 := R.inside hn hm hu
    obtain ⟨px, py, hs, h | h⟩ := hu'
    · have dg := Sn.diag hs
      have q' : R eq n m (D - c) (px + 1) py := by
        have := (hu.snake hs).right h.1
        rwa [show D - (c + 1) + 1 = D - c by omega] at this
      have hf := hC (by omega) (px + 1) py h.2 q'
      have hin := R.inside hn hm q'
      have hdg := R'.diag h.2
      have ek : u - v + 1 = px + 1 - py := by omega
      refine ⟨px, py, hs, by omega, ?_⟩
      by_cases hfn : 0 < B (u - v + 1)
      · have := candB_left (n := n) (c := ((c + 1 : Nat) : Int)) (dl := n - m) (B := B) (k := u - v) ⟨by omega, hfn⟩
        rw [ek] at this
        omega
      · rcases hB (px + 1 - py) with e | ⟨e1, e2, e3, e4, c', e5, e6⟩
        · omega
        · have en : B (px + 1 - py) = 0 := by rw [ek] at hfn; omega
          rw [en] at e6 e4 e3
          exact (hD.off_left (c := c) e5 e6 e3 e4 hu hcD (by omega)).elim
    · have dg := Sn.diag hs
      have q' : R eq n m (D - c) px (py + 1) := by
        have := (hu.snake hs).down h.1
        rwa [show D - (c + 1) + 1 = D - c by omega] at this
      have hf := hC (by omega) px (py + 1) h.2 q'
      have hin := R.inside hn hm q'
      have hdg := R'.diag h.2
      have ek : u - v - 1 = px - (py + 1) := by omega
      refine ⟨px, py, hs, by omega, ?_⟩
      by_cases hfn : 0 < B (u - v - 1) - (u - v - 1)
      · have := candB_up (n := n) (c := ((c + 1 : Nat) : Int)) (dl := n - m) (B := B) (k := u - v) ⟨by omega, by rw [ek]; omega, hfn⟩
        rw [ek] at this
        omega
      · rcases hB (px - (py + 1)) with e | ⟨e1, e2, e3, e4, c', e5, e6⟩
        · omega
        · have en : B (px - (py + 1)) = px - (py + 1) := by rw [ek] at hfn; omega
          rw [en, show px - (py + 1) - (px - (py + 1)) = 0 by omega] at e6
          exact (hD.off_up (c := c) e5 e6 (by omega) (by omega) hu hcD (by omega)).elim

theorem cand_congr {c : Int} {F G : Int → Int} {k : Int} (h1 : F (k - 1) = G (k - 1)) (h2 : F (k + 1) = G (k + 1)) : cand n m c F k = cand n m c G k := by
  unfold cand; rw [h1, h2]
theorem candB_congr {c dl : Int} {F G : Int → Int} {k : Int} (h1 : F (k - 1) = G (k - 1)) (h2 : F (k + 1) = G (k + 1)) : candB n c dl F k = candB n c dl G k := by
  unfold candB; rw [h1, h2]

/-- In the midst of the forward pass c, ahead of diagonal k. -/
structure MidF (eq : Int → Int → Bool) (n m : Int) (D c : Nat) (F0 : Int → Int) (k : Int) (F : Int → Int) : Prop where
  sound : FS eq n m c F
  old : ∀ j : Int, (j + (c : Int)) % 2 ≠ 0 → F j = F0 j
  done : ∀ x y, R eq n m c x y → R' eq n m (D - c) x y → k < x - y → x ≤ F (x - y)
  left : 2 * c = D + 1 → ∀ x y, R eq n m c x y → R' eq n m (D - c) x y → x - y ≤ k
structure MidB (eq : Int → Int → Bool) (n m : Int) (D c : Nat) (B0 : Int → Int) (k : Int) (B : Int → Int) : Prop where
  sound : BS eq n m c B
  old : ∀ j : Int, (j - (n - m) + (c : Int)) % 2 ≠ 0 → B j = B0 j
  done : ∀ x y, R' eq n m c x y → R eq n m (D - c) x y → k < x - y → 0 ≤ B (x - y) ∧ B (x - y) ≤ x
  left : 2 * c = D → ∀ x y, R' eq n m c x y → R eq n m (D - c) x y → x - y ≤ k

theorem fwd_step {D c : Nat} (hD : Dist eq n m D) (hn : 1 ≤ n) (hm : 1 ≤ m) (h2 : 2 ≤ D) (hc2 : 2 * c ≤ D + 1) {F0 B : Int → Int} (hF0 : FS eq n m (c - 1) F0) (hC0 : 1 ≤ c → FC eq n m D (c - 1) F0) (hB : 1 ≤ c → BC eq n m D (c - 1) B)
    {k : Int} (hk0 : c = 0 → k = 0) {F : Int → Int} (hM : MidF eq n m D c F0 k F) :
    (∀ r, (fwdK eq n m c B k F).1 = some r → Good n m r) ∧ ((fwdK eq n m c B k F).1 = none → MidF eq n m D c F0 (k - 1) (fwdK eq n m c B k F).2) := by
  have hcD : c ≤ D := by omega
  unfold fwdK
  by_cases hp : (k + (c : Int)) % 2 ≠ 0
  · rw [if_pos hp]
    refine ⟨fun r h => (by cases h), fun _ => ⟨hM.sound, hM.old, fun x y h h' hlt => ?_, fun e x y h h' => ?_⟩⟩
    · obtain ⟨z, hz⟩ := (R.diag h).2.2
      exact hM.done x y h h' (by omega)
    · obtain ⟨z, hz⟩ := (R.diag h).2.2
      have := hM.left e x y h h'
      omega
  rw [if_neg hp]
  have hcg : cand n m c F k = cand n m c F0 k := cand_congr (hM.old (k - 1) (by omega)) (hM.old (k + 1) (by omega))
  rw [hcg]
  have hcomp : ∀ x y, R eq n m c x y → R' eq n m (D - c) x y → x - y = k → ∃ px py, Sn eq n m px py x y ∧ 0 ≤ px ∧ px ≤ cand n m c F0 k := fun x y h h' e => by
    have := cand_comp hD (by omega) (by omega) hF0 hC0 hcD h h'
    rwa [e] at this
  by_cases hx : cand n m c F0 k < 0
  · rw [if_pos hx]
    refine ⟨fun r h => (by cases h), fun _ => ⟨hM.sound, hM.old, fun x y h h' hlt => ?_, fun e x y h h' => ?_⟩⟩
    · by_cases hxy : x - y = k
      · obtain ⟨px, py, _, q1, q2⟩ := hcomp x y h h' hxy; omega
      · exact hM.done x y h h' (by omega)
    · by_cases hxy : x - y = k
      · obtain ⟨px, py, _, q1, q2⟩ := hcomp x y h h' hxy; omega
      · have := hM.left e x y h h'; omega
  rw [if_neg hx]
  obtain ⟨s1, s2, s3, s4, c', s5, s6⟩ := cand_sound (k := k) hF0 (by omega) (by omega) (by omega) hk0
  generalize hX : cand n m c F0 k = X at *
  have hsn : Sn eq n m X (X - k) (advTo eq n m k X) (advTo eq n m k X - k) := adv_sn k _ _
  have hle := Sn.le hsn
  have hin := Sn.inside hsn s1 s3
  have hfar : ∀ x y, R eq n m c x y → R' eq n m (D - c) x y → x - y = k → x ≤ advTo eq n m k X := fun x y h h' e => by
    obtain ⟨px, py, q1, q2, q3⟩ := hcomp x y h h' e
    exact adv_far k q1 e _ _ (by omega) q3
  have hRx := s6.snake hsn
  generalize hY : advTo eq n m k X = Y at *
  have hFk := hM.sound k
  have hnew : FS eq n m c (upd F k (max (F k) Y)) := fun j => by
    by_cases e : j = k
    · subst e
      rw [upd_same]
      right
      by_cases hmx : F j ≤ Y
      · rw [Int.max_eq_right hmx]
        exact ⟨by omega, by omega, by omega, by omega, c', s5, hRx⟩
      · rw [Int.max_eq_left (by omega)]
        rcases hFk with q | q
        · omega
        · exact q
    · rw [upd_other _ _ e]; exact hM.sound j
  have hMid : ((n - m) % 2 ≠ 0 ∧ (n - m) - ((c : Int) - 1) ≤ k ∧ k ≤ (n - m) + ((c : Int) - 1) ∧ 0 ≤ B k ∧ B k ≤ Y → False) → MidF eq n m D c F0 (k - 1) (upd F k (max (F k) Y)) := fun hno => by
    refine ⟨hnew, fun j hj => ?_, fun x y h h' hlt => ?_, fun e x y h h' => ?_⟩
    · have hjk : j ≠ k := fun e => by rw [e] at hj; omega
      rw [upd_other _ _ hjk]; exact hM.old j hj
    · by_cases hxy : x - y = k
      · have := hfar x y h h' hxy
        rw [hxy, upd_same]; omega
      · rw [upd_other _ _ hxy]; exact hM.done x y h h' (by omega)
    · by_cases hxy : x - y = k
      · exfalso
        have hc1 : 1 ≤ c := by omega
        have q := hB hc1 x y (by rwa [show D - c = c - 1 by omega] at h') (by rwa [show D - (c - 1) = c by omega])
        have q2 := hfar x y h h' hxy
        have q3 := R'.diag h'
        obtain ⟨z, hz⟩ := hD.par
        rw [hxy] at q
        exact hno ⟨by omega, by omega, by omega, q.1, by omega⟩
      · have := hM.left e x y h h'; omega
  by_cases hmeet : (n - m) % 2 ≠ 0 ∧ (n - m) - ((c : Int) - 1) ≤ k ∧ k ≤ (n - m) + ((c : Int) - 1) ∧ 0 ≤ B k ∧ B k ≤ Y
  · rw [if_pos hmeet]
    refine ⟨fun r h => ?_, fun h => by cases h⟩
    cases h
    have hc1 : 1 ≤ c := by omega
    have := s4 hc1
    refine ⟨by simp; omega, by simp; omega, by simp; omega, by simp; omega, by simp; omega, by simp; omega, ?_, ?_⟩
    · rintro ⟨e1, e2⟩
      simp only at e1 e2
      rw [e2, e1] at s6
      have := hD.2 _ s6
      omega
    · rintro ⟨e1, e2⟩
      simp only at e1 e2
      omega
  · rw [if_neg hmeet]
    exact ⟨fun r h => (by cases h), fun _ => hMid hmeet⟩

theorem fwd_loop {D c : Nat} (hD : Dist eq n m D) (hn : 1 ≤ n) (hm : 1 ≤ m) (h2 : 2 ≤ D) (hc2 : 2 * c ≤ D + 1) {F0 B : Int → Int} (hF0 : FS eq n m (c - 1) F0) (hC0 : 1 ≤ c → FC eq n m D (c - 1) F0) (hB : 1 ≤ c → BC eq n m D (c - 1) B) :
    ∀ (g : Nat) (k : Int) (F : Int → Int), k - fLo m c + 1 ≤ g → (c = 0 → k ≤ 0) → MidF eq n m D c F0 k F →
      (∀ r, (fwdL eq n m c B (fLo m c) g k F).1 = some r → Good n m r) ∧ ((fwdL eq n m c B (fLo m c) g k F).1 = none → FS eq n m c (fwdL eq n m c B (fLo m c) g k F).2 ∧ FC eq n m D c (fwdL eq n m c B (fLo m c) g k F).2 ∧ 2 * c ≠ D + 1) := by
  have fin : ∀ (k : Int) (F : Int → Int), k < fLo m c → MidF eq n m D c F0 k F → FS eq n m c F ∧ FC eq n m D c F ∧ 2 * c ≠ D + 1 := fun k F hk hM => by
    refine ⟨hM.sound, fun x y h h' => hM.done x y h h' ?_, fun e => ?_⟩
    · have := (R.diag h).2.1
      have := R.inside (by omega) (by omega) h
      unfold fLo at hk; omega
    · obtain ⟨u, v, q1, q2⟩ := split (c := c) (b := D - c) (by rw [show c + (D - c) = D by omega]; exact hD.1)
      have := hM.left e u v q1 q2
      have := (R.diag q1).2.1
      have := R.inside (by omega) (by omega) q1
      unfold fLo at hk; omega
  intro g
  induction g with
  | zero =>
    intro k F hg _ hM
    rw [fwdL]
    exact ⟨fun r h => (by cases h), fun _ => fin k F (by omega) hM⟩
  | succ g ih =>
    intro k F hg hk hM
    rw [fwdL]
    by_cases hlo : k < fLo m c
    · rw [if_pos hlo]
      exact ⟨fun r h => (by cases h), fun _ => fin k F hlo hM⟩
    · rw [if_neg hlo]
      have hk0 : c = 0 → k = 0 := fun e => by have := hk e; subst e; unfold fLo at hlo; omega
      obtain ⟨t1, t2⟩ := fwd_step (B := B) hD hn hm h2 hc2 hF0 hC0 hB hk0 hM
      cases hr : (fwdK eq n m c B k F).1 with
      | some r => exact ⟨fun r' h => by simp only at h; cases h; exact t1 r hr, fun h => by simp only at h; cases h⟩
      | none => exact ih (k - 1) _ (by omega) (fun e => by have := hk e; omega) (t2 hr)

theorem fwd_pass {D c : Nat} (hD : Dist eq n m D) (hn : 1 ≤ n) (hm : 1 ≤ m) (h2 : 2 ≤ D) (hc2 : 2 * c ≤ D + 1) {F0 B : Int → Int} (hF0 : FS eq n m (c - 1) F0) (hC0 : 1 ≤ c → FC eq n m D (c - 1) F0) (hB : 1 ≤ c → BC eq n m D (c - 1) B) :
    (∀ r, (fwdP eq n m c B F0).1 = some r → Good n m r) ∧ ((fwdP eq n m c B F0).1 = none → FS eq n m c (fwdP eq n m c B F0).2 ∧ FC eq n m D c (fwdP eq n m c B F0).2 ∧ 2 * c ≠ D + 1) := by
  unfold fwdP
  refine fwd_loop hD hn hm h2 hc2 hF0 hC0 hB _ _ _ (by omega) (fun e => by subst e; unfold fHi; omega) ⟨hF0.mono (by omega), fun j _ => rfl, fun x y h h' hlt => ?_, fun e x y h h' => ?_⟩
  · have := (R.diag h).1
    have := R.inside (by omega) (by omega) h
    unfold fHi at hlt; omega
  · have := (R.diag h).1
    have := R.inside (by omega) (by omega) h
    unfold fHi; omega

theorem bwd_step {D c : Nat} (hD : Dist eq n m D) (hn : 1 ≤ n) (hm : 1 ≤ m) (h0 : eq 0 0 = false) (h2 : 2 ≤ D) (hc2 : 2 * c ≤ D) {B0 F : Int → Int} (hB0 : BS eq n m (c - 1) B0) (hC0 : 1 ≤ c → BC eq n m D (c - 1) B0) (hFS : FS eq n m c F) (hF : FC eq n m D c F)
    {k : Int} (hk0 : c = 0 → k = n - m) {B : Int → Int} (hM : MidB eq n m D c B0 k B) :
    (∀ r, (bwdK eq n m c F k B).1 = some r → Good n m r) ∧ ((bwdK eq n m c F k B).1 = none → MidB eq n m D c B0 (k - 1) (bwdK eq n m c F k B).2) := by
  have hcD : c ≤ D := by omega
  have par' : ∀ {x y : Int}, R eq n m (D - c) x y → ∃ z : Int, x - y - (n - m) = c + 2 * z := fun {x y} h => by
    obtain ⟨z, hz⟩ := (R.diag h).2.2
    obtain ⟨z', hz'⟩ := hD.par
    exact ⟨z - z' - c, by omega⟩
  unfold bwdK
  by_cases hp : (k - (n - m) + (c : Int)) % 2 ≠ 0
  · rw [if_pos hp]
    refine ⟨fun r h => (by cases h), fun _ => ⟨hM.sound, hM.old, fun x y h h' hlt => ?_, fun e x y h h' => ?_⟩⟩
    · obtain ⟨z, hz⟩ := par' h'
      exact hM.done x y h h' (by omega)
    · obtain ⟨z, hz⟩ := par' h'
      have := hM.left e x y h h'
      omega
  rw [if_neg hp]
  have hcg : candB n c (n - m) B k = candB n c (n - m) B0 k := candB_congr (hM.old (k - 1) (by omega)) (hM.old (k + 1) (by omega))
  rw [hcg]
  have hcomp : ∀ x y, R' eq n m c x y → R eq n m (D - c) x y → x - y = k → ∃ px py, Sn eq n m x y px py ∧ px ≤ n ∧ candB n c (n - m) B0 k ≤ px := fun x y h h' e => by
    have := candB_comp hD (by omega) (by omega) hB0 hC0 hcD h h'
    rwa [e] at this
  by_cases hx : n < candB n c (n - m) B0 k
  · rw [if_pos hx]
    refine ⟨fun r h => (by cases h), fun _ => ⟨hM.sound, hM.old, fun x y h h' hlt => ?_, fun e x y h h' => ?_⟩⟩
    · by_cases hxy : x - y = k
      · obtain ⟨px, py, _, q1, q2⟩ := hcomp x y h h' hxy; omega
      · exact hM.done x y h h' (by omega)
    · by_cases hxy : x - y = k
      · obtain ⟨px, py, _, q1, q2⟩ := hcomp x y h h' hxy; omega
      · have := hM.left e x y h h'; omega
  rw [if_neg hx]
  obtain ⟨s1, s2, s3, s4, c', s5, s6⟩ := candB_sound (k := k) hB0 (by omega) (by omega) (by omega) hk0
  generalize hX : candB n c (n - m) B0 k = X at *
  have hsn : Sn eq n m (retTo eq k X) (retTo eq k X - k) X (X - k) := ret_sn k _ _ (by omega) s3
  have hle := Sn.le hsn
  have hpos : 0 ≤ retTo eq k X ∧ 0 ≤ retTo eq k X - k := ret_pos k _ _ s1 s2
  have hfar : ∀ x y, R' eq n m c x y → R eq n m (D - c) x y → x - y = k → retTo eq k X ≤ x := fun x y h h' e => by
    obtain ⟨px, py, q1, q2, q3⟩ := hcomp x y h h' e
    have hin := R.inside (by omega) (by omega) h'
    exact ret_far k q1 e hin.1 hin.2.2.1 _ _ (by omega) q3
  have hRx := s6.snake hsn
  generalize hY : retTo eq k X = Y at *
  have hBk := hM.sound k
  have hnew : BS eq n m c (if B k < 0 ∨ Y < B k then upd B k Y else B) ∧ (0 ≤ (if B k < 0 ∨ Y < B k then upd B k Y else B) k ∧ (if B k < 0 ∨ Y < B k then upd B k Y else B) k ≤ Y) ∧ ∀ j, j ≠ k → (if B k < 0 ∨ Y < B k then upd B k Y else B) j = B j := by
    by_cases hc : B k < 0 ∨ Y < B k
    · simp only [if_pos hc]
      refine ⟨fun j => ?_, ⟨by rw [upd_same]; omega, by rw [upd_same]; omega⟩, fun j hj => upd_other _ _ hj⟩
      by_cases e : j = k
      · subst e
        rw [upd_same]
        exact .inr ⟨by omega, by omega, by omega, by omega, c', s5, hRx⟩
      · rw [upd_other _ _ e]; exact hM.sound j
    · simp only [if_neg hc]
      refine ⟨hM.sound, ⟨by omega, by omega⟩, ?_⟩
      intro j _
      first | trivial | rfl
  obtain ⟨n1, n2, n3⟩ := hnew
  generalize (if B k < 0 ∨ Y < B k then upd B k Y else B) = B' at *
  by_cases hmeet : (n - m) % 2 = 0 ∧ -(c : Int) ≤ k ∧ k ≤ (c : Int) ∧ Y ≤ F k
  · rw [if_pos hmeet]
    refine ⟨fun r h => ?_, fun h => by cases h⟩
    cases h
    refine ⟨by simp; omega, by simp; omega, by simp; omega, by simp; omega, by simp; omega, by simp; omega, ?_, ?_⟩
    · rintro ⟨e1, e2⟩
      simp only at e1 e2
      by_cases hc1 : 1 ≤ c
      · have := s4 hc1; omega
      · obtain rfl : c = 0 := by omega
        rcases hFS k with q | ⟨_, _, _, _, c'', q5, q6⟩
        · omega
        · obtain rfl : c'' = 0 := by omega
          have := zero_only h0 q6
          omega
    · rintro ⟨e1, e2⟩
      simp only at e1 e2
      rw [e1] at s6 e2
      rw [e2] at s6
      have := hD.2 _ (join R.start s6)
      omega
  · rw [if_neg hmeet]
    have hMid : MidB eq n m D c B0 (k - 1) B' := by
      refine ⟨n1, fun j hj => ?_, fun x y h h' hlt => ?_, fun e x y h h' => ?_⟩
      · have hjk : j ≠ k := fun e => by rw [e] at hj; omega
        rw [n3 j hjk]; exact hM.old j hj
      · by_cases hxy : x - y = k
        · have := hfar x y h h' hxy
          rw [hxy]; omega
        · rw [n3 _ hxy]; exact hM.done x y h h' (by omega)
      · by_cases hxy : x - y = k
        · exfalso
          have q := hF x y (by rwa [show D - c = c by omega] at h') (by rwa [show D - c = c by omega])
          have q2 := hfar x y h h' hxy
          have q3 := R.diag h'
          obtain ⟨z, hz⟩ := hD.par
          rw [hxy] at q
          exact hmeet ⟨by omega, by omega, by omega, by omega⟩
        · have := hM.left e x y h h'; omega
    exact ⟨fun r h => (by cases h), fun _ => hMid⟩

theorem bwd_loop {D c : Nat} (hD : Dist eq n m D) (hn : 1 ≤ n) (hm : 1 ≤ m) (h0 : eq 0 0 = false) (h2 : 2 ≤ D) (hc2 : 2 * c ≤ D) {B0 F : Int → Int} (hB0 : BS eq n m (c - 1) B0) (hC0 : 1 ≤ c → BC eq n m D (c - 1) B0) (hFS : FS eq n m c F) (hF : FC eq n m D c F) :
    ∀ (g : Nat) (k : Int) (B : Int → Int), k - bLo n m c + 1 ≤ g → (c = 0 → k ≤ n - m) → MidB eq n m D c B0 k B →
      (∀ r, (bwdL eq n m c F (bLo n m c) g k B).1 = some r → Good n m r) ∧ ((bwdL eq n m c F (bLo n m c) g k B).1 = none → BS eq n m c (bwdL eq n m c F (bLo n m c) g k B).2 ∧ BC eq n m D c (bwdL eq n m c F (bLo n m c) g k B).2 ∧ 2 * c ≠ D) := by
  have fin : ∀ (k : Int) (B : Int → Int), k < bLo n m c → MidB eq n m D c B0 k B → BS eq n m c B ∧ BC eq n m D c B ∧ 2 * c ≠ D := fun k B hk hM => by
    refine ⟨hM.sound, fun x y h h' => hM.done x y h h' ?_, fun e => ?_⟩
    · have := (R'.diag h).2
      have := R.inside (by omega) (by omega) h'
      unfold bLo at hk; omega
    · obtain ⟨u, v, q1, q2⟩ := split (c := D - c) (b := c) (by rw [show D - c + c = D by omega]; exact hD.1)
      have := hM.left e u v q2 q1
      have := (R'.diag q2).2
      have := R.inside (by omega) (by omega) q1
      unfold bLo at hk; omega
  intro g
  induction g with
  | zero =>
    intro k B hg _ hM
    rw [bwdL]
    exact ⟨fun r h => (by cases h), fun _ => fin k B (by omega) hM⟩
  | succ g ih =>
    intro k B hg hk hM
    rw [bwdL]
    by_cases hlo : k < bLo n m c
    · rw [if_pos hlo]
      exact ⟨fun r h => (by cases h), fun _ => fin k B hlo hM⟩
    · rw [if_neg hlo]
      have hk0 : c = 0 → k = n - m := fun e => by have := hk e; subst e; unfold bLo at hlo; omega
      obtain ⟨t1, t2⟩ := bwd_step (F := F) hD hn hm h0 h2 hc2 hB0 hC0 hFS hF hk0 hM
      cases hr : (bwdK eq n m c F k B).1 with
      | some r => exact ⟨fun r' h => by simp only at h; cases h; exact t1 r hr, fun h => by simp only at h; cases h⟩
      | none => exact ih (k - 1) _ (by omega) (fun e => by have := hk e; omega) (t2 hr)

theorem bwd_pass {D c : Nat} (hD : Dist eq n m D) (hn : 1 ≤ n) (hm : 1 ≤ m) (h0 : eq 0 0 = false) (h2 : 2 ≤ D) (hc2 : 2 * c ≤ D) {B0 F : Int → Int} (hB0 : BS eq n m (c - 1) B0) (hC0 : 1 ≤ c → BC eq n m D (c - 1) B0) (hFS : FS eq n m c F) (hF : FC eq n m D c F) :
    (∀ r, (bwdP eq n m c F B0).1 = some r → Good n m r) ∧ ((bwdP eq n m c F B0).1 = none → BS eq n m c (bwdP eq n m c F B0).2 ∧ BC eq n m D c (bwdP eq n m c F B0).2 ∧ 2 * c ≠ D) := by
  unfold bwdP
  refine bwd_loop hD hn hm h0 h2 hc2 hB0 hC0 hFS hF _ _ _ (by omega) (fun e => by subst e; unfold bHi; omega) ⟨hB0.mono (by omega), fun j _ => rfl, fun x y h h' hlt => ?_, fun e x y h h' => ?_⟩
  · have := (R'.diag h).1
    have := R.inside (by omega) (by omega) h'
    unfold bHi at hlt; omega
  · have := (R'.diag h).1
    have := R.inside (by omega) (by omega) h'
    unfold bHi; omega

theorem c_loop {D : Nat} (hD : Dist eq n m D) (hn : 1 ≤ n) (hm : 1 ≤ m) (h0 : eq 0 0 = false) (h2 : 2 ≤ D) :
    ∀ (g c : Nat) (F B : Int → Int), (n + m + 1) / 2 + 1 - c ≤ g → 2 * c ≤ D + 1 → FS eq n m (c - 1) F → (1 ≤ c → FC eq n m D (c - 1) F) → BS eq n m (c - 1) B → (1 ≤ c → BC eq n m D (c - 1) B) → ∃ r, cL eq n m g c F B = some r ∧ Good n m r := by
  have hDle := hD.le (by omega) (by omega)
  intro g
  induction g with
  | zero => intro c F B hg hc; omega
  | succ g ih =>
    intro c F B hg hc hF hFC hB hBC
    rw [cL, if_neg (by omega)]
    obtain ⟨t1, t2⟩ := fwd_pass (B := B) hD hn hm h2 hc hF hFC hBC
    cases hr : (fwdP eq n m c B F).1 with
    | some r => exact ⟨r, rfl, t1 r hr⟩
    | none =>
      obtain ⟨u1, u2, u3⟩ := t2 hr
      simp only
      generalize (fwdP eq n m c B F).2 = F' at *
      obtain ⟨v1, v2⟩ := bwd_pass (F := F') hD hn hm h0 h2 (by omega) hB hBC u1 u2
      cases hr' : (bwdP eq n m c F' B).1 with
      | some r => exact ⟨r, rfl, v1 r hr'⟩
      | none =>
        obtain ⟨x1, x2, x3⟩ := v2 hr'
        have := ih (c + 1) F' (bwdP eq n m c F' B).2 (by omega) (by omega) u1 (fun _ => u2) x1 (fun _ => x2)
        rw [show ((c + 1 : Nat) : Int) = (c : Int) + 1 by omega] at this
        exact this

/-- THE PLAIN LAW: with both ends unequal the searches meet, and what they give splits the problem in two smaller ones. -/
theorem snakeOf_good (hn : 1 ≤ n) (hm : 1 ≤ m) (h0 : eq 0 0 = false) (h1 : eq (n - 1) (m - 1) = false) : ∃ r, snakeOf eq n m = some r ∧ Good n m r := by
  obtain ⟨D, hD⟩ := Dist.some (eq := eq) (n := n) (m := m) (by omega) (by omega)
  exact c_loop hD hn hm h0 (hD.two hn hm h0 h1) _ 0 _ _ (by omega) (by omega) (fun k => .inl rfl) (fun h => by omega) (fun k => .inl rfl) (fun h => by omega)
end
end Go.Proofs.Qxb6601687a.My

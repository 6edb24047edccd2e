/-
  The plain law of numberLength: no Go in sight. 'f k': the byte at k; 'N': how many bytes.
-/
import Derived.KernelRfl
namespace Go.Proofs.Qxb6601739a.Num

def isD (c : Int) : Bool := decide (48 ≤ c) && decide (c ≤ 57)
def isS (c : Int) : Bool := (c == 43) || (c == 45)
def isE (c : Int) : Bool := (c == 101) || (c == 69)

/-- Behind the run of digits that begins at e; 'g': at least so many bytes are left. -/
def run (f : Nat → Int) (N : Nat) : Nat → Nat → Nat
  | 0, e => e
  | g + 1, e => if e < N ∧ isD (f e) = true then run f N g (e + 1) else e
def runTo (f : Nat → Int) (N e : Nat) : Nat := run f N (N - e) e

theorem runTo_step {f : Nat → Int} {N e : Nat} (h : e < N) (hd : isD (f e) = true) : runTo f N e = runTo f N (e + 1) := by
  unfold runTo
  rw [show N - e = (N - (e + 1)) + 1 by omega, run, if_pos ⟨h, hd⟩]
theorem runTo_stop {f : Nat → Int} {N e : Nat} (h : ¬ (e < N ∧ isD (f e) = true)) : runTo f N e = e := by
  unfold runTo
  cases N - e with
  | zero => rfl
  | succ g => rw [run, if_neg h]
theorem run_ge (f : Nat → Int) (N : Nat) : ∀ g e, e ≤ run f N g e := by
  intro g
  induction g with
  | zero => intro e; exact Nat.le_refl _
  | succ g ih =>
    intro e
    rw [run]
    split
    · have := ih (e + 1); omega
    · exact Nat.le_refl _
theorem runTo_ge (f : Nat → Int) (N e : Nat) : e ≤ runTo f N e := run_ge f N _ e
theorem run_le (f : Nat → Int) (N : Nat) : ∀ g e, e ≤ N → run f N g e ≤ N := by
  intro g
  induction g with
  | zero => intro e h; exact h
  | succ g ih =>
    intro e h
    rw [run]
    split
    · exact ih (e + 1) (by omega)
    · exact h
theorem runTo_le {f : Nat → Int} {N e : Nat} (h : e ≤ N) : runTo f N e ≤ N := run_le f N _ e h
theorem run_end (f : Nat → Int) (N : Nat) : ∀ g e, N - e ≤ g → ¬ (run f N g e < N ∧ isD (f (run f N g e)) = true) := by
  intro g
  induction g with
  | zero => intro e h h'; rw [run] at h'; omega
  | succ g ih =>
    intro e h
    rw [run]
    split
    · exact ih (e + 1) (by omega)
    · assumption
theorem runTo_end (f : Nat → Int) (N e : Nat) : ¬ (runTo f N e < N ∧ isD (f (runTo f N e)) = true) := run_end f N _ e (Nat.le_refl _)

/-! ### numberLength -/
def e0 (f : Nat → Int) (N : Nat) : Nat := if 0 < N ∧ isS (f 0) = true then 1 else 0
/-- behind the exponent, if there is one -/
def expo (f : Nat → Int) (N e : Nat) : Nat :=
  if e < N ∧ isE (f e) = true then
    (let x := if e + 1 < N ∧ isS (f (e + 1)) = true then e + 2 else e + 1
     if x < runTo f N x then runTo f N x else e)
  else e
def numLen (f : Nat → Int) (N : Nat) : Nat :=
  let a := e0 f N
  let b := runTo f N a
  if b < N ∧ f b = 46 then
    (let d := runTo f N (b + 1)
     if (b - a) + (d - (b + 1)) = 0 then 0 else expo f N d)
  else if b - a = 0 then 0 else expo f N b

/-! ### the automaton -/
def step (st c : Int) : Int :=
  if st = 0 then (if isS c = true then 1 else if isD c = true then 2 else if c = 46 then 3 else -1)
  else if st = 1 then (if isD c = true then 2 else if c = 46 then 3 else -1)
  else if st = 2 then (if isD c = true then 2 else if c = 46 then 4 else if isE c = true then 5 else -1)
  else if st = 3 then (if isD c = true then 4 else -1)
  else if st = 4 then (if isD c = true then 4 else if isE c = true then 5 else -1)
  else if st = 5 then (if isS c = true then 6 else if isD c = true then 7 else -1)
  else if st = 6 then (if isD c = true then 7 else -1)
  else if st = 7 then (if isD c = true then 7 else -1)
  else -1
def acc (st : Int) : Bool := (st == 2) || (st == 4) || (st == 7)
def auto (f : Nat → Int) (N : Nat) : Nat → Nat → Int → Nat → Nat
  | 0, _, _, best => best
  | g + 1, i, st, best => if i < N then (if step st (f i) < 0 then best else auto f N g (i + 1) (step st (f i)) (if acc (step st (f i)) = true then i + 1 else best)) else best
def A (f : Nat → Int) (N i : Nat) (st : Int) (best : Nat) : Nat := auto f N (N - i) i st best

theorem A_go {f : Nat → Int} {N i : Nat} {st : Int} {best : Nat} {st' : Int} (h : i < N) (hs : step st (f i) = st') (h0 : 0 ≤ st') : A f N i st best = A f N (i + 1) st' (if acc st' = true then i + 1 else best) := by
  unfold A
  rw [show N - i = (N - (i + 1)) + 1 by omega, auto, if_pos h, hs, if_neg (by omega)]
theorem A_stop {f : Nat → Int} {N i : Nat} {st : Int} {best : Nat} (h : i < N → step st (f i) = -1) : A f N i st best = best := by
  unfold A
  cases hg : N - i with
  | zero => rfl
  | succ g => rw [auto, if_pos (by omega), h (by omega), if_pos (by omega)]

theorem dS {c : Int} (h : isD c = true) : isS c = false := by simp [isD] at h; simp [isS]; omega
theorem dE {c : Int} (h : isD c = true) : isE c = false := by simp [isD] at h; simp [isE]; omega
theorem dP {c : Int} (h : isD c = true) : ¬ c = 46 := by simp [isD] at h; omega
theorem sP {c : Int} (h : isS c = true) : ¬ c = 46 := by simp [isS] at h; omega
theorem eP {c : Int} (h : isE c = true) : ¬ c = 46 := by simp [isE] at h; omega

/-- In an accepting state over digits: on to the end of the run. -/
theorem A_run {f : Nat → Int} {N : Nat} {st : Int} (hst : st = 2 ∨ st = 4 ∨ st = 7) : ∀ g i, N - i ≤ g → A f N i st i = A f N (runTo f N i) st (runTo f N i) := by
  intro g
  induction g with
  | zero =>
    intro i h
    rw [runTo_stop (by omega)]
  | succ g ih =>
    intro i h
    by_cases hd : i < N ∧ isD (f i) = true
    · rw [runTo_step hd.1 hd.2, A_go (st' := st) hd.1 (by rcases hst with rfl | rfl | rfl <;> simp [step, hd.2]) (by omega), if_pos (by rcases hst with rfl | rfl | rfl <;> rfl)]
      exact ih (i + 1) (by omega)
    · rw [runTo_stop hd]

theorem A7 (f : Nat → Int) (N i : Nat) : A f N i 7 i = runTo f N i := by
  rw [A_run (.inr (.inr rfl)) (N - i) i (Nat.le_refl _)]
  refine A_stop fun h => ?_
  have := runTo_end f N i
  simp [step, show ¬ isD (f (runTo f N i)) = true from fun e => this ⟨h, e⟩]
theorem A6 (f : Nat → Int) (N i best : Nat) : A f N i 6 best = if i < runTo f N i then runTo f N i else best := by
  by_cases hd : i < N ∧ isD (f i) = true
  · rw [A_go (st' := 7) hd.1 (by simp [step, hd.2]) (by omega), if_pos (by rfl), A7, ← runTo_step hd.1 hd.2, if_pos]
    have := runTo_ge f N (i + 1)
    rw [runTo_step hd.1 hd.2]; omega
  · rw [runTo_stop hd, if_neg (by omega)]
    refine A_stop fun h => ?_
    simp [step, show ¬ isD (f i) = true from fun e => hd ⟨h, e⟩]
theorem A5 (f : Nat → Int) (N i best : Nat) : A f N i 5 best = (let x := if i < N ∧ isS (f i) = true then i + 1 else i; if x < runTo f N x then runTo f N x else best) := by
  by_cases hs : i < N ∧ isS (f i) = true
  · rw [A_go (st' := 6) hs.1 (by simp [step, hs.2]) (by omega), if_neg (by simp [acc]), A6]
    simp [hs]
  · simp only [if_neg hs]
    by_cases hd : i < N ∧ isD (f i) = true
    · rw [A_go (st' := 7) hd.1 (by simp [step, hd.2, dS hd.2]) (by omega), if_pos (by rfl), A7, ← runTo_step hd.1 hd.2, if_pos]
      have := runTo_ge f N (i + 1)
      rw [runTo_step hd.1 hd.2]; omega
    · rw [runTo_stop hd, if_neg (by omega)]
      refine A_stop fun h => ?_
      simp [step, show ¬ isD (f i) = true from fun e => hd ⟨h, e⟩, show ¬ isS (f i) = true from fun e => hs ⟨h, e⟩]
theorem A4 (f : Nat → Int) (N i : Nat) : A f N i 4 i = expo f N (runTo f N i) := by
  rw [A_run (.inr (.inl rfl)) (N - i) i (Nat.le_refl _)]
  have hend := runTo_end f N i
  generalize runTo f N i = j at *
  unfold expo
  by_cases he : j < N ∧ isE (f j) = true
  · rw [if_pos he, A_go (st' := 5) he.1 (by simp [step, he.2, show ¬ isD (f j) = true from fun e => hend ⟨he.1, e⟩]) (by omega), if_neg (by simp [acc]), A5]
  · rw [if_neg he]
    refine A_stop fun h => ?_
    simp [step, show ¬ isD (f j) = true from fun e => hend ⟨h, e⟩, show ¬ isE (f j) = true from fun e => he ⟨h, e⟩]
theorem A2 (f : Nat → Int) (N i : Nat) : A f N i 2 i = if runTo f N i < N ∧ f (runTo f N i) = 46 then expo f N (runTo f N (runTo f N i + 1)) else expo f N (runTo f N i) := by
  rw [A_run (.inl rfl) (N - i) i (Nat.le_refl _)]
  have hend := runTo_end f N i
  generalize runTo f N i = j at *
  by_cases hp : j < N ∧ f j = 46
  · rw [if_pos hp, A_go (st' := 4) hp.1 (by simp [step, hp.2, show ¬ isD 46 = true from by decide]) (by omega), if_pos (by rfl), A4]
  · rw [if_neg hp]
    unfold expo
    by_cases he : j < N ∧ isE (f j) = true
    · rw [if_pos he, A_go (st' := 5) he.1 (by simp [step, he.2, eP he.2, show ¬ isD (f j) = true from fun e => hend ⟨he.1, e⟩]) (by omega), if_neg (by simp [acc]), A5]
    · rw [if_neg he]
      refine A_stop fun h => ?_
      simp [step, show ¬ isD (f j) = true from fun e => hend ⟨h, e⟩, show ¬ isE (f j) = true from fun e => he ⟨h, e⟩, show ¬ f j = 46 from fun e => hp ⟨h, e⟩]
theorem A3 (f : Nat → Int) (N i : Nat) : A f N i 3 0 = if i < runTo f N i then expo f N (runTo f N i) else 0 := by
  by_cases hd : i < N ∧ isD (f i) = true
  · rw [A_go (st' := 4) hd.1 (by simp [step, hd.2]) (by omega), if_pos (by rfl), A4, ← runTo_step hd.1 hd.2, if_pos]
    have := runTo_ge f N (i + 1)
    rw [runTo_step hd.1 hd.2]; omega
  · rw [runTo_stop hd, if_neg (by omega)]
    refine A_stop fun h => ?_
    simp [step, show ¬ isD (f i) = true from fun e => hd ⟨h, e⟩]

/-- Behind the sign: digits, a point, or nothing. -/
theorem A1 {f : Nat → Int} {N i : Nat} {st : Int} (hst : st = 1 ∨ (st = 0 ∧ (i < N → isS (f i) = false))) :
    A f N i st 0 = (let b := runTo f N i; if b < N ∧ f b = 46 then (let d := runTo f N (b + 1); if (b - i) + (d - (b + 1)) = 0 then 0 else expo f N d) else if b - i = 0 then 0 else expo f N b) := by
  have hsg : st = 1 ∨ st = 0 := by rcases hst with h | h; exact .inl h; exact .inr h.1
  by_cases hd : i < N ∧ isD (f i) = true
  · have hs : step st (f i) = 2 := by rcases hsg with rfl | rfl <;> simp [step, hd.2, dS hd.2]
    rw [A_go (st' := 2) hd.1 hs (by omega), if_pos (by rfl), A2, ← runTo_step hd.1 hd.2]
    have := runTo_ge f N (i + 1)
    have h2 : i < runTo f N i := by rw [runTo_step hd.1 hd.2]; omega
    simp only [show ¬ (runTo f N i - i = 0) by omega, if_false]
    split
    · rw [if_neg (by omega)]
    · rfl
  · rw [runTo_stop hd]
    simp only [Nat.sub_self, Nat.zero_add, if_true]
    by_cases hp : i < N ∧ f i = 46
    · have hs : step st (f i) = 3 := by rcases hsg with rfl | rfl <;> simp [step, hp.2, show ¬ isD 46 = true from by decide, show ¬ isS 46 = true from by decide]
      rw [if_pos hp, A_go (st' := 3) hp.1 hs (by omega), if_neg (by simp [acc]), A3]
      have := runTo_ge f N (i + 1)
      by_cases h0 : i + 1 < runTo f N (i + 1)
      · rw [if_pos h0, if_neg (by omega)]
      · rw [if_neg h0, if_pos (by omega)]
    · rw [if_neg hp]
      refine A_stop fun h => ?_
      have n1 : ¬ isD (f i) = true := fun e => hd ⟨h, e⟩
      have n2 : ¬ f i = 46 := fun e => hp ⟨h, e⟩
      rcases hst with rfl | ⟨rfl, h'⟩
      · simp [step, n1, n2]
      · simp [step, n1, n2, h' h]

/-- THE PLAIN LAW: the two answer alike. -/
theorem auto_numLen (f : Nat → Int) (N : Nat) : A f N 0 0 0 = numLen f N := by
  unfold numLen e0
  by_cases hs : 0 < N ∧ isS (f 0) = true
  · rw [if_pos hs, A_go (st' := 1) hs.1 (by simp [step, hs.2]) (by omega), if_neg (by simp [acc]), A1 (.inl rfl)]
  · rw [if_neg hs, A1 (.inr ⟨rfl, fun h => by simpa using fun e => hs ⟨h, e⟩⟩)]

/-- The step at a digit; at a byte that is none of the automaton's. -/
theorem step_d (st : Int) {c : Int} (h : isD c = true) : step st c = if st = 0 ∨ st = 1 ∨ st = 2 then 2 else if st = 3 ∨ st = 4 then 4 else if st = 5 ∨ st = 6 ∨ st = 7 then 7 else -1 := by
  have hs := dS h
  unfold step
  simp only [h, hs]
  (repeat' split) <;> first | rfl | omega | simp_all
theorem step_o (st : Int) {c : Int} (h1 : isD c = false) (h2 : isS c = false) (h3 : isE c = false) (h4 : ¬ c = 46) : step st c = -1 := by
  unfold step
  simp [h1, h2, h3, h4]
theorem step_range (st c : Int) : step st c = -1 ∨ (0 ≤ step st c ∧ step st c ≤ 7) := by
  unfold step
  (repeat' split) <;> omega
end Go.Proofs.Qxb6601739a.Num

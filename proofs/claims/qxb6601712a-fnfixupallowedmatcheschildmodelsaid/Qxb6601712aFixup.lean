import Derived.Test.Qxb6601712aLayout
namespace Go.Proofs.Qxb6601712a
open Go.ChangeShapes Go.WideShapes Go.ChangeAt Go.RowKit

/-- The walk up from i: the lowest free offset of 'up', if the walk meets it. -/
def fx (U P : Nat → Int) (up : Int) : Nat → Int → Int → Option Int
  | 0, i, f => if i = up then some f else none
  | g + 1, i, f => if i = up then some f else if i < 0 then none else fx U P up g (U i.toNat) (IntKind.u64.wrap (P i.toNat + 8))
def okAt (o : Option Int) (at' : Int) : Bool := match o with | none => false | some f => decide (f ≤ at')

theorem recs_get (z0 z1 z2 z3 z4 z5 : List Int) (k i j : Nat) (hi : i < k) (hj : j < 6) : (recs z0 z1 z2 z3 z4 z5 k)[6 * i + j]? = (recAt z0 z1 z2 z3 z4 z5 i)[j]? := by
  have hlen : ∀ k, (recs z0 z1 z2 z3 z4 z5 k).length = 6 * k := by
    intro k
    induction k with
    | zero => rfl
    | succ k ih => rw [recs_succ, List.length_append, ih]; simp [recAt]; omega
  induction k with
  | zero => omega
  | succ k ih =>
    rw [recs_succ]
    by_cases h : i < k
    · rw [List.getElem?_append_left (by rw [hlen]; omega)]
      exact ih h
    · obtain rfl : i = k := by omega
      rw [List.getElem?_append_right (by rw [hlen]; omega), hlen]
      congr 1
      omega

set_option maxHeartbeats 1000000 in
theorem fixup_any (L g n cap : Nat) (z0 z1 z2 z3 z4 z5 : List Int) (size last lf up at' : Int) (w : World)
    (hL : w.heap[L]? = some (.cells #[.slice (some ⟨g, 0, none⟩) n cap, .int .u64 size, .int .i64 last, .int .u64 lf] 49 (0, 0)))
    (hown : w.ownsRow (L + 1) 53 6 (.slice (some ⟨g, 0, none⟩) n cap) n (recs z0 z1 z2 z3 z4 z5 n))
    (h0 : 0 ≤ last) (h1 : last < n) (hup : ∀ j, j < n → -1 ≤ z5[j]?.getD 0 ∧ z5[j]?.getD 0 < j) :
    Calls Try.prog 25 #[.pointer (some ⟨L, 0, none⟩), .int .i64 up, .int .u64 at'] w fun e w' => e = .returned (.bool (okAt (fx (fun j => z5[j]?.getD 0) (fun j => z2[j]?.getD 0) up n last lf) at')) ∧ w' = w := by
  have c0 : w.cell? ⟨L, 0, none⟩ = some (.slice (some ⟨g, 0, none⟩) n cap) := by simp [World.cell?, hL]
  have c2 : w.cell? ⟨L, 2, none⟩ = some (.int .i64 last) := by simp [World.cell?, hL]
  have c3 : w.cell? ⟨L, 3, none⟩ = some (.int .u64 lf) := by simp [World.cell?, hL]
  have hrow : ∀ i j, i < n → j < 6 → w.cell? ⟨g, 6 * i + j, none⟩ = (recAt z0 z1 z2 z3 z4 z5 i)[j]? := by
    intro i j hi hj
    rw [hown.cellAt _ (by omega), recs_get _ _ _ _ _ _ _ _ _ hi hj]
  clear hL hown
  go_enter Try.func25, Try.ntmps25
  go_wp2
  go_loop [7, 8] (fun F I => ∃ (G : Nat) (i f : Int), F = .int .u64 f ∧ I = .int .i64 i ∧ -1 ≤ i ∧ i < n ∧ i < G ∧ Hid (fx (fun j => z5[j]?.getD 0) (fun j => z2[j]?.getD 0) up G i f = fx (fun j => z5[j]?.getD 0) (fun j => z2[j]?.getD 0) up n last lf)) (fun _ I => (intOf I + 1).toNat)
  case atStart => exact ⟨n, last, lf, rfl, rfl, by omega, h1, h1, rfl⟩
  case round =>
    obtain ⟨G, i, f, rfl, rfl, hi1, hi2, hG, hfx⟩ := hrel
    by_cases hu : i = up
    · have hu' : (i != up) = false := by simpa using hu
      have hR : Hid (okAt (fx (fun j => z5[j]?.getD 0) (fun j => z2[j]?.getD 0) up n last lf) at' = decide (f ≤ at')) := by
        show _ = _
        rw [← hfx.out]
        cases G <;> simp [fx, hu, okAt]
      clear hfx hu
      go_wp2
      go_ret
      exact ⟨by rw [hR.out]; rfl, rfl⟩
    · have hu' : (i != up) = true := by simpa using hu
      by_cases hneg : i < 0
      · have hR : Hid (okAt (fx (fun j => z5[j]?.getD 0) (fun j => z2[j]?.getD 0) up n last lf) at' = false) := by
          show _ = _
          rw [← hfx.out]
          cases G <;> simp [fx, hu, hneg, okAt]
        clear hfx
        go_wp2
        go_ret
        exact ⟨by rw [hR.out]; rfl, rfl⟩
      · obtain ⟨k, rfl⟩ : ∃ k : Nat, i = (k : Int) := ⟨i.toNat, by omega⟩
        have hk : k < n := by omega
        have e2 : w.cell? ⟨g, k * 6 + 2, none⟩ = some (.int .u64 (z2[k]?.getD 0)) := by rw [show k * 6 + 2 = 6 * k + 2 by omega]; exact hrow k 2 hk (by omega)
        have e5 : w.cell? ⟨g, k * 6 + 5, none⟩ = some (.int .i64 (z5[k]?.getD 0)) := by rw [show k * 6 + 5 = 6 * k + 5 by omega]; exact hrow k 5 hk (by omega)
        have hup' := hup k hk
        have HU : Hid (¬ (k : Int) = up) := hu
        clear hrow hup hu
        go_wp2
        go_round
        case rel =>
          obtain ⟨G', rfl⟩ : ∃ G', G = G' + 1 := ⟨G - 1, by omega⟩
          refine ⟨G', _, _, rfl, rfl, by omega, by omega, by omega, ?_⟩
          have := hfx.out
          rw [fx, if_neg HU.out, if_neg hneg] at this
          exact this
        case measure => simp [intOf]; omega

theorem zzfixup_any (L g n cap : Nat) (z0 z1 z2 z3 z4 z5 : List Int) (size last lf up at' : Int) (w : World)
    (hL : w.heap[L]? = some (.cells #[.slice (some ⟨g, 0, none⟩) n cap, .int .u64 size, .int .i64 last, .int .u64 lf] 49 (0, 0)))
    (hown : w.ownsRow (L + 1) 53 6 (.slice (some ⟨g, 0, none⟩) n cap) n (recs z0 z1 z2 z3 z4 z5 n))
    (h0 : 0 ≤ last) (h1 : last < n) (hup : ∀ j, j < n → -1 ≤ z5[j]?.getD 0 ∧ z5[j]?.getD 0 < j) :
    Calls Try.prog 19 #[.pointer (some ⟨L, 0, none⟩), .int .i64 up, .int .u64 at'] w fun e w' => e = .returned (.bool (okAt (fx (fun j => z5[j]?.getD 0) (fun j => z2[j]?.getD 0) up n last lf) at')) ∧ w' = w := by
  have H := fixup_any L g n cap z0 z1 z2 z3 z4 z5 size last lf up at' w hL hown h0 h1 hup
  clear hL hown hup h0 h1
  go_enter Try.func19, Try.ntmps19
  go_wp2_with (go_at_call 25; refine H.mono ?_; rintro e w' ⟨rfl, rfl⟩)
  go_ret
  exact ⟨rfl, rfl⟩
end Go.Proofs.Qxb6601712a

import Derived.Test.Qxb6601739aNumW
namespace Go.Proofs.Qxb6601739a
open Go.ChangeShapes Go.WideShapes Go.ChangeAt Go.RowKit

/-- The byte at k. -/
def byt (s : ByteArray) (k : Nat) : Int := if h : k < s.size then (s[k].toNat : Int) else 0
theorem byt_at {s : ByteArray} {k : Nat} (h : k < s.size) : byt s k = (s[k].toNat : Int) := by simp [byt, h]

set_option maxHeartbeats 1000000 in
theorem auto_any (s : ByteArray) (w : World) (hs : s.size ≤ 1048576) :
    Calls Try.prog 9 #[.string s] w fun e w' => e = .returned (.int .i64 (Num.A (byt s) s.size 0 0 0)) ∧ w' = w := by
  go_enter Try.func9, Try.ntmps9
  go_wp2
  go_loop [3, 4, 5] (fun S B I => ∃ (k best : Nat) (st : Int), S = .int .i64 st ∧ B = .int .i64 best ∧ I = .int .i64 k ∧ k ≤ s.size ∧ best ≤ k ∧ 0 ≤ st ∧ st ≤ 7 ∧ Hid (Num.A (byt s) s.size k st best = Num.A (byt s) s.size 0 0 0)) (fun _ _ I => s.size - (intOf I).toNat)
  case atStart => exact ⟨0, 0, 0, rfl, rfl, rfl, Nat.zero_le _, Nat.le_refl _, by omega, by omega, rfl⟩
  case round =>
    obtain ⟨k, best, st, rfl, rfl, rfl, hk, hb, h0, h7, hA⟩ := hrel
    by_cases hlt : k < s.size
    · have hby := byt_at hlt
      have HB : Hid (byt s k = (s[k].toNat : Int)) := hby
      clear hby
      have hst := Num.step_range st (byt s k)
      rw [HB.out] at hst
      by_cases hneg : Num.step st (s[k].toNat : Int) = -1
      · have hR : Hid (Num.A (byt s) s.size 0 0 0 = best) := by
          show _ = _
          rw [← hA.out]
          exact Num.A_stop (fun _ => by rw [HB.out]; exact hneg)
        clear hA hst
        go_wp2_with fail
        refine (step_any st _ w h0 h7).mono ?_
        rintro e w' ⟨rfl, rfl⟩
        rw [hneg]
        go_wp2
        go_ret
        exact ⟨by rw [hR.out]; rfl, rfl⟩
      · have hst' : 0 ≤ Num.step st (s[k].toNat : Int) ∧ Num.step st (s[k].toNat : Int) ≤ 7 := by rcases hst with h | h; exact absurd h hneg; exact h
        obtain ⟨n0, n7⟩ := hst'
        have hA' : Hid (Num.A (byt s) s.size (k + 1) (Num.step st (s[k].toNat : Int)) (if Num.acc (Num.step st (s[k].toNat : Int)) = true then k + 1 else best) = Num.A (byt s) s.size 0 0 0) := by
          show _ = _
          rw [← hA.out]
          exact (Num.A_go hlt (by rw [HB.out]) n0).symm
        have HX : Hid (Calls Try.prog 17 #[.int .i64 st, .int .u8 (s[k].toNat : Int)] w (StepPost (Num.step st (s[k].toNat : Int)) w)) := step_any st _ w h0 h7
        clear hA hst hneg HB
        generalize Num.step st (s[k].toNat : Int) = st' at *
        go_wp2_with fail
        refine HX.out.mono ?_
        rintro e w' ⟨rfl, rfl⟩
        go_wp2_with fail
        refine (accepts_any st' _).mono ?_
        rintro e w' ⟨rfl, rfl⟩
        by_cases hac : Num.acc st' = true
        · have hA2 := hA'.out
          rw [if_pos hac] at hA2
          have HA : Hid (Num.A (byt s) s.size (k + 1) st' (k + 1) = Num.A (byt s) s.size 0 0 0) := hA2
          clear hA2 hA'
          go_wp2
          go_round
          case rel => exact ⟨k + 1, k + 1, st', rfl, by go_num, by go_num, by omega, by omega, n0, n7, HA⟩
          case measure => simp [intOf]; omega
        · have hA2 := hA'.out
          rw [if_neg hac] at hA2
          have HA : Hid (Num.A (byt s) s.size (k + 1) st' best = Num.A (byt s) s.size 0 0 0) := hA2
          have hac' : Num.acc st' = false := by simpa using hac
          clear hA2 hA' hac
          go_wp2
          go_round
          case rel => exact ⟨k + 1, best, st', rfl, rfl, by go_num, by omega, by omega, n0, n7, HA⟩
          case measure => simp [intOf]; omega
    · have hR : Hid (Num.A (byt s) s.size 0 0 0 = best) := by
        show _ = _
        rw [← hA.out]
        exact Num.A_stop (fun h => absurd h hlt)
      clear hA
      go_wp2
      go_ret
      exact ⟨by rw [hR.out]; rfl, rfl⟩
end Go.Proofs.Qxb6601739a

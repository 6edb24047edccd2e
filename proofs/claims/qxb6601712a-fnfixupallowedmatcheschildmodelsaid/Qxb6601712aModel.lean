import Derived.Test.Qxb6601712aMore
namespace Go.Proofs.Qxb6601712a
open Go.ChangeShapes Go.WideShapes Go.ChangeAt Go.RowKit

theorem hide {p : Prop} (h : p) : Hid p := h
theorem unhide {p : Prop} (h : Hid p) : p := h

/-- Does the way up from i meet c? -/
def onP (U : Nat → Int) (c : Int) : Nat → Int → Bool
  | 0, _ => false
  | g + 1, i => if i < 0 then false else if i = c then true else onP U c g (U i.toNat)

theorem onP_le {U : Nat → Int} {n : Nat} (hU : ∀ j, j < n → -1 ≤ U j ∧ U j < j) {c : Int} : ∀ {g : Nat} {i : Int}, i < n → onP U c g i = true → c ≤ i := by
  intro g
  induction g with
  | zero => intro i _ h; simp [onP] at h
  | succ g ih =>
    intro i hi h
    rw [onP] at h
    split at h
    · simp at h
    · split at h
      · omega
      · have := hU i.toNat (by omega)
        have := ih (by omega) h
        omega

theorem fx_here (U P : Nat → Int) (up f : Int) (g : Nat) : fx U P up g up f = some f := by cases g <;> simp [fx]

theorem fx_of_onP {U P : Nat → Int} {up : Int} {n : Nat} (hU : ∀ j, j < n → -1 ≤ U j ∧ U j < j) {c : Nat} (hc : c < n) (hUc : U c = up) :
    ∀ {g : Nat} {i f : Int}, -1 ≤ i → i < n → i ≠ up → onP U c g i = true → fx U P up g i f = some (IntKind.u64.wrap (P c + 8)) := by
  intro g
  induction g with
  | zero => intro i f _ _ _ h; simp [onP] at h
  | succ g ih =>
    intro i f h1 h2 h3 h
    rw [onP] at h
    split at h
    · simp at h
    · rw [fx, if_neg h3, if_neg (by assumption)]
      split at h
      · obtain rfl : i = (c : Int) := by assumption
        simp only [Int.toNat_natCast]
        rw [hUc, fx_here]
      · have hu := hU i.toNat (by omega)
        by_cases e : U i.toNat = up
        · have := onP_le hU (by omega) h
          have := hU c hc
          omega
        · exact ih (by omega) (by omega) e h

theorem onP_of_fx {U P : Nat → Int} {up : Int} {n : Nat} (hU : ∀ j, j < n → -1 ≤ U j ∧ U j < j) :
    ∀ {g : Nat} {i f f' : Int}, -1 ≤ i → i < n → i ≠ up → fx U P up g i f = some f' → ∃ c : Nat, c < n ∧ U c = up ∧ onP U c g i = true := by
  intro g
  induction g with
  | zero => intro i f f' _ _ h3 h; simp [fx, h3] at h
  | succ g ih =>
    intro i f f' h1 h2 h3 h
    rw [fx, if_neg h3] at h
    split at h
    · simp at h
    · have hu := hU i.toNat (by omega)
      by_cases e : U i.toNat = up
      · refine ⟨i.toNat, by omega, e, ?_⟩
        rw [onP, if_neg (by assumption), if_pos (by omega)]
      · obtain ⟨c, q1, q2, q3⟩ := ih (by omega) (by omega) e h
        refine ⟨c, q1, q2, ?_⟩
        rw [onP, if_neg (by assumption)]
        split
        · rfl
        · exact q3

set_option maxHeartbeats 400000 in
theorem onPath_any (b n : Nat) (zs : List Int) (last c : Int) (w : World) (h0 : 0 ≤ last) (h1 : last < n)
    (hcell : ∀ i, i < n → w.cell? ⟨b, i, none⟩ = some (.int .i64 (zs[i]?.getD 0))) (hup : Hid (∀ j, j < n → -1 ≤ zs[j]?.getD 0 ∧ zs[j]?.getD 0 < j)) :
    Calls Try.prog 26 #[.slice (some ⟨b, 0, none⟩) n n, .int .i64 last, .int .i64 c] w fun e w' => e = .returned (.bool (onP (fun j => zs[j]?.getD 0) c n last)) ∧ w' = w := by
  go_enter Try.func26, Try.ntmps26
  go_wp2
  go_loop [7] (fun I => ∃ (G : Nat) (i : Int), I = .int .i64 i ∧ -1 ≤ i ∧ i < n ∧ i < G ∧ Hid (onP (fun j => zs[j]?.getD 0) c G i = onP (fun j => zs[j]?.getD 0) c n last)) (fun I => (intOf I + 1).toNat)
  case atStart => exact ⟨n, last, rfl, by omega, h1, h1, rfl⟩
  case round =>
    obtain ⟨G, i, rfl, hi1, hi2, hG, hfx⟩ := hrel
    by_cases hneg : i < 0
    · have hR : Hid (onP (fun j => zs[j]?.getD 0) c n last = false) := by
        show _ = _
        rw [← hfx.out]
        cases G <;> simp [onP, hneg]
      clear hfx
      go_wp2
      go_ret
      exact ⟨by rw [hR.out]; rfl, rfl⟩
    · obtain ⟨k, rfl⟩ : ∃ k : Nat, i = (k : Int) := ⟨i.toNat, by omega⟩
      obtain ⟨G', rfl⟩ : ∃ G', G = G' + 1 := ⟨G - 1, by omega⟩
      have hk : k < n := by omega
      have e5 := hcell k hk
      have hup' := hup.out k hk
      by_cases hu : (k : Int) = c
      · have hR : Hid (onP (fun j => zs[j]?.getD 0) c n last = true) := by
          show _ = _
          rw [← hfx.out]
          rw [onP, if_neg hneg, if_pos hu]
        have hu' : ((k : Int) == c) = true := by simpa using hu
        clear hfx hcell hu
        go_wp2
        go_ret
        exact ⟨by rw [hR.out]; rfl, rfl⟩
      · have hu' : ((k : Int) == c) = false := by simpa using hu
        have HU : Hid (¬ (k : Int) = c) := hu
        clear hcell hu
        go_wp2
        go_round
        case rel =>
          refine ⟨G', _, rfl, by omega, by omega, by omega, ?_⟩
          have := hfx.out
          rw [onP, if_neg hneg, if_neg HU.out] at this
          exact this
        case measure => simp [intOf]; omega

set_option maxHeartbeats 400000 in
theorem model_any (b2 b5 n : Nat) (z2 z5 : List Int) (last lf up at' : Int) (w : World) (hn : n ≤ 1048576) (h0 : 0 ≤ last) (h1 : last < n)
    (hc2 : ∀ i, i < n → w.cell? ⟨b2, i, none⟩ = some (.int .u64 (z2[i]?.getD 0)))
    (hc5 : ∀ i, i < n → w.cell? ⟨b5, i, none⟩ = some (.int .i64 (z5[i]?.getD 0))) (hup : Hid (∀ j, j < n → -1 ≤ z5[j]?.getD 0 ∧ z5[j]?.getD 0 < j)) :
    Calls Try.prog 20 #[.slice (some ⟨b2, 0, none⟩) n n, .slice (some ⟨b5, 0, none⟩) n n, .int .i64 last, .int .u64 lf, .int .i64 up, .int .u64 at'] w fun e w' => e = .returned (.bool (okAt (fx (fun j => z5[j]?.getD 0) (fun j => z2[j]?.getD 0) up n last lf) at')) ∧ w' = w := by
  by_cases hu : up = last
  · have hu' : (up == last) = true := by simpa using hu
    have hR : Hid (okAt (fx (fun j => z5[j]?.getD 0) (fun j => z2[j]?.getD 0) up n last lf) at' = decide (lf ≤ at')) := by
      show _ = _
      rw [hu, fx_here]; rfl
    clear hu
    go_enter Try.func20, Try.ntmps20
    go_wp2
    go_ret
    exact ⟨by rw [hR.out]; rfl, rfl⟩
  · have hu' : (up == last) = false := by simpa using hu
    have HU : Hid (¬ up = last) := hu
    have HO : Hid (∀ c, Calls Try.prog 26 #[.slice (some ⟨b5, 0, none⟩) n n, .int .i64 last, .int .i64 c] w fun e w' => e = .returned (.bool (onP (fun j => z5[j]?.getD 0) c n last)) ∧ w' = w) := fun c => onPath_any b5 n z5 last c w h0 h1 hc5 hup
    clear hu
    go_enter Try.func20, Try.ntmps20
    go_wp2
    go_loop [13] (fun I => ∃ (k : Nat), k ≤ n ∧ I = .int .i64 k ∧ Hid (∀ c, c < k → ¬ (z5[c]?.getD 0 = up ∧ onP (fun j => z5[j]?.getD 0) c n last = true))) (fun I => n - (intOf I).toNat)
    case atStart => exact ⟨0, Nat.zero_le _, rfl, fun c hc => absurd hc (by omega)⟩
    case round =>
      obtain ⟨k, hk, rfl, hnot⟩ := hrel
      by_cases hlt : k < n
      · have e2 := hc2 k hlt
        have e5 := hc5 k hlt
        clear hc2 hc5
        by_cases hz : z5[k]?.getD 0 = up
        · have hz' : (z5[k]?.getD 0 == up) = true := by simpa using hz
          have HZ : Hid (z5[k]?.getD 0 = up) := hz
          clear hz
          go_wp2_with fail
          refine (HO.out k).mono ?_
          rintro e w' ⟨rfl, hw⟩
          subst hw
          by_cases hp : onP (fun j => z5[j]?.getD 0) k n last = true
          · have hR : Hid (okAt (fx (fun j => z5[j]?.getD 0) (fun j => z2[j]?.getD 0) up n last lf) at' = decide (IntKind.u64.wrap (z2[k]?.getD 0 + 8) ≤ at')) := by
              show _ = _
              rw [fx_of_onP (c := k) hup.out hlt HZ.out (by omega) h1 (fun e => HU.out e.symm) hp]; rfl
            go_wp2
            go_ret
            exact ⟨by rw [hR.out]; rfl, rfl⟩
          · have hp' : onP (fun j => z5[j]?.getD 0) k n last = false := by simpa using hp
            have HP : Hid (¬ onP (fun j => z5[j]?.getD 0) k n last = true) := hp
            clear hp
            go_wp2
            go_round
            case rel => exact ⟨k + 1, by omega, by go_num, fun c hc => by by_cases e : c = k; (subst e; exact fun h => HP.out h.2); exact hnot.out c (by omega)⟩
            case measure => simp [intOf]; omega
        · have hz' : (z5[k]?.getD 0 == up) = false := by simpa using hz
          have HZ : Hid (¬ z5[k]?.getD 0 = up) := hz
          clear hz
          go_wp2
          go_round
          case rel => exact ⟨k + 1, by omega, by go_num, fun c hc => by by_cases e : c = k; (subst e; exact fun h => HZ.out h.1); exact hnot.out c (by omega)⟩
          case measure => simp [intOf]; omega
      · have hR : Hid (okAt (fx (fun j => z5[j]?.getD 0) (fun j => z2[j]?.getD 0) up n last lf) at' = false) := by
          show _ = _
          cases hf : fx (fun j => z5[j]?.getD 0) (fun j => z2[j]?.getD 0) up n last lf with
          | none => rfl
          | some f' =>
            obtain ⟨c, q1, q2, q3⟩ := onP_of_fx hup.out (by omega) h1 (fun e => HU.out e.symm) hf
            exact absurd ⟨q2, q3⟩ (hnot.out c (by omega))
        go_wp2
        go_ret
        exact ⟨by rw [hR.out]; rfl, rfl⟩
end Go.Proofs.Qxb6601712a

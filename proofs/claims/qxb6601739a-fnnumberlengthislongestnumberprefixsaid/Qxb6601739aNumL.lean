import Derived.Test.Qxb6601739aNumA
import Derived.Deep.CutBlock
namespace Go.Proofs.Qxb6601739a
open Go.ChangeShapes Go.WideShapes Go.ChangeAt Go.RowKit

theorem hideE {p : Prop} (h : p) : Hid p := h
def lenFrom (f : Nat → Int) (N a : Nat) : Nat :=
  let b := Num.runTo f N a
  if b < N ∧ f b = 46 then
    (let d := Num.runTo f N (b + 1)
     if (b - a) + (d - (b + 1)) = 0 then 0 else Num.expo f N d)
  else if b - a = 0 then 0 else Num.expo f N b

set_option maxRecDepth 20000 in
set_option maxHeartbeats 1000000 in
theorem len_any (s : ByteArray) (w : World) (hs : s.size ≤ 1048576) :
    Calls Try.prog 16 #[.string s] w fun e w' => e = .returned (.int .i64 (Num.numLen (byt s) s.size)) ∧ w' = w := by
  go_enter Try.func16, Try.ntmps16
  go_upto_region 2 with fail
  go_cut [22] (fun b wc => wc = w ∧ b = .bool (decide (Num.e0 (byt s) s.size = 1)))
  case first =>
    by_cases hN : 0 < s.size
    · have HB : Hid (byt s 0 = (s[0].toNat : Int)) := byt_at hN
      by_cases h1 : (s[0].toNat : Int) = 43
      · have h1' : ((s[0].toNat : Int) == 43) = true := by simpa using h1
        have hR : Hid (Num.e0 (byt s) s.size = 1) := by show _ = _; simp [Num.e0, Num.isS, HB.out, h1, hN]
        clear h1
        go_wp2_with fail
        go_meet
        case rel => exact ⟨rfl, by rw [hR.out]; rfl⟩
      have h1' : ((s[0].toNat : Int) == 43) = false := by simpa using h1
      by_cases h2 : (s[0].toNat : Int) = 45
      · have h2' : ((s[0].toNat : Int) == 45) = true := by simpa using h2
        have hR : Hid (Num.e0 (byt s) s.size = 1) := by show _ = _; simp [Num.e0, Num.isS, HB.out, h2, hN]
        clear h1 h2
        go_wp2_with fail
        go_meet
        case rel => exact ⟨rfl, by rw [hR.out]; rfl⟩
      have h2' : ((s[0].toNat : Int) == 45) = false := by simpa using h2
      have hR : Hid (Num.e0 (byt s) s.size = 0) := by show _ = _; simp [Num.e0, Num.isS, HB.out, h1', h2']
      clear h1 h2
      go_wp2_with fail
      go_meet
      case rel => exact ⟨rfl, by rw [hR.out]; rfl⟩
    · have hR : Hid (Num.e0 (byt s) s.size = 0) := by show _ = _; simp [Num.e0, hN]
      go_wp2_with fail
      go_meet
      case rel => exact ⟨rfl, by rw [hR.out]; rfl⟩
  case rest =>
    obtain ⟨rfl, rfl⟩ := hcut
    go_upto_if 22 with fail
    go_cut [3] (fun e w' => w' = wc ∧ e = .int .i64 (Num.e0 (byt s) s.size))
    case first =>
      by_cases h : Num.e0 (byt s) s.size = 1
      · have H : Hid (Num.e0 (byt s) s.size = 1) := h
        rw [h]
        clear h
        go_wp2_with fail
        go_meet
        case rel => exact ⟨rfl, by rw [H.out]; rfl⟩
      · have h0 : Num.e0 (byt s) s.size = 0 := by unfold Num.e0 at h ⊢; split at h; exact absurd rfl h; rename_i hx; rw [if_neg hx]
        have H : Hid (Num.e0 (byt s) s.size = 0) := h0
        rw [h0]
        clear h h0
        go_wp2_with fail
        go_meet
        case rel => exact ⟨rfl, by rw [H.out]; rfl⟩
    case rest =>
      obtain ⟨rfl, rfl⟩ := hcut
      have ha : Num.e0 (byt s) s.size ≤ s.size := by unfold Num.e0; split <;> omega
      have HL : Hid (Num.numLen (byt s) s.size = lenFrom (byt s) s.size (Num.e0 (byt s) s.size)) := rfl
      generalize Num.e0 (byt s) s.size = a at *
      go_upto_block 0 with fail
      go_cut [3, 4] (fun E D w' => w' = wc ∧ E = .int .i64 (Num.runTo (byt s) s.size a : Nat) ∧ D = .int .i64 ((Num.runTo (byt s) s.size a : Nat) - (a : Int)))
      case first =>
        have hst := ha
        go_wp2_with fail
        go_loop [3, 4] (fun E D => ∃ k : Nat, E = .int .i64 k ∧ D = .int .i64 ((k : Int) - a) ∧ a ≤ k ∧ k ≤ s.size ∧ Hid (Num.runTo (byt s) s.size k = Num.runTo (byt s) s.size (a))) (fun E _ => s.size - (intOf E).toNat)
        case atStart => exact ⟨a, rfl, by go_num, Nat.le_refl _, hst, rfl⟩
        case round =>
          obtain ⟨k, rfl, rfl, hk1, hk2, hrun⟩ := hrel
          by_cases hlt : k < s.size
          · have HB : Hid (byt s k = (s[k].toNat : Int)) := byt_at hlt
            by_cases hd : Num.isD (s[k].toNat : Int) = true
            · have hr : Hid (Num.runTo (byt s) s.size (k + 1) = Num.runTo (byt s) s.size (a)) := by
                show _ = _
                rw [← hrun.out]
                exact (Num.runTo_step hlt (by rw [HB.out]; exact hd)).symm
              clear hrun
              go_wp2_with fail
              refine (isDigit_any _ _).mono ?_
              rintro e w' ⟨rfl, rfl⟩
              rw [hd]
              clear hd
              go_wp2
              go_round
              case rel => exact ⟨k + 1, by go_num, by go_num, by omega, by omega, hr⟩
              case measure => simp [intOf]; omega
            · have hd' : Num.isD (s[k].toNat : Int) = false := by simpa using hd
              have hr : Hid (Num.runTo (byt s) s.size (a) = k) := by
                show _ = _
                rw [← hrun.out]
                exact Num.runTo_stop (fun h => hd (by rw [← HB.out]; exact h.2))
              clear hrun hd
              go_wp2_with fail
              refine (isDigit_any _ _).mono ?_
              rintro e w' ⟨rfl, rfl⟩
              rw [hd']
              go_wp2_with fail
              go_meet
              case rel => exact ⟨rfl, by rw [hr.out], by rw [hr.out]⟩
          · have hr : Hid (Num.runTo (byt s) s.size (a) = k) := by
              show _ = _
              rw [← hrun.out]
              exact Num.runTo_stop (fun h => hlt h.1)
            clear hrun
            go_wp2_with fail
            go_meet
            case rel => exact ⟨rfl, by rw [hr.out], by rw [hr.out]⟩
      case rest =>
        obtain ⟨rfl, rfl, rfl⟩ := hcut
        have hb1 := Num.runTo_ge (byt s) s.size a
        have hb2 := Num.runTo_le (f := byt s) ha
        have HE := HL.out
        unfold lenFrom at HE
        generalize Num.runTo (byt s) s.size a = b at *
        have HE' := hideE HE
        clear HE HL
        go_upto_region 8 with fail
        go_cut [48] (fun B w' => w' = wc ∧ B = .bool (decide (b < s.size ∧ byt s b = 46)))
        case first =>
          by_cases hN : b < s.size
          · have HB : Hid (byt s b = (s[b].toNat : Int)) := byt_at hN
            have hR : Hid (decide (b < s.size ∧ byt s b = 46) = ((s[b].toNat : Int) == 46)) := by
              show _ = _
              rw [HB.out, Bool.eq_iff_iff]
              simp [hN]
            go_wp2_with fail
            go_meet
            case rel => exact ⟨rfl, by rw [hR.out]⟩
          · have hR : Hid (decide (b < s.size ∧ byt s b = 46) = false) := by
              show _ = _
              simp [hN]
            go_wp2_with fail
            go_meet
            case rel => exact ⟨rfl, by rw [hR.out]⟩
        case rest =>
          obtain ⟨rfl, rfl⟩ := hcut
          go_upto_if 48 with fail
          go_cut [3, 4] (fun E D w' => w' = wc ∧ E = .int .i64 (if b < s.size ∧ byt s b = 46 then Num.runTo (byt s) s.size (b + 1) else b : Nat) ∧ D = .int .i64 (if b < s.size ∧ byt s b = 46 then (b - a) + (Num.runTo (byt s) s.size (b + 1) - (b + 1)) else b - a : Nat))
          case first =>
            by_cases hp : b < s.size ∧ byt s b = 46
            · have H := hideE hp
              rw [decide_eq_true hp]
              clear hp
              go_upto_block 2 with fail
              go_cut [3, 4] (fun E D w' => w' = wc ∧ E = .int .i64 (Num.runTo (byt s) s.size (b + 1) : Nat) ∧ D = .int .i64 ((b : Int) - a + ((Num.runTo (byt s) s.size (b + 1) : Nat) - ((b : Int) + 1))))
              case first =>
                have hst : b + 1 ≤ s.size := H.out.1
                go_wp2_with fail
                go_loop [3, 4] (fun E D => ∃ k : Nat, E = .int .i64 k ∧ D = .int .i64 ((b : Int) - a + ((k : Int) - ((b : Int) + 1))) ∧ (b + 1) ≤ k ∧ k ≤ s.size ∧ Hid (Num.runTo (byt s) s.size k = Num.runTo (byt s) s.size ((b + 1)))) (fun E _ => s.size - (intOf E).toNat)
                case atStart => exact ⟨(b + 1), by go_num, by go_num, Nat.le_refl _, hst, rfl⟩
                case round =>
                  obtain ⟨k, rfl, rfl, hk1, hk2, hrun⟩ := hrel
                  by_cases hlt : k < s.size
                  · have HB : Hid (byt s k = (s[k].toNat : Int)) := byt_at hlt
                    by_cases hd : Num.isD (s[k].toNat : Int) = true
                    · have hr : Hid (Num.runTo (byt s) s.size (k + 1) = Num.runTo (byt s) s.size ((b + 1))) := by
                        show _ = _
                        rw [← hrun.out]
                        exact (Num.runTo_step hlt (by rw [HB.out]; exact hd)).symm
                      clear hrun
                      go_wp2_with fail
                      refine (isDigit_any _ _).mono ?_
                      rintro e w' ⟨rfl, rfl⟩
                      rw [hd]
                      clear hd
                      go_wp2
                      go_round
                      case rel => exact ⟨k + 1, by go_num, by go_num, by omega, by omega, hr⟩
                      case measure => simp [intOf]; omega
                    · have hd' : Num.isD (s[k].toNat : Int) = false := by simpa using hd
                      have hr : Hid (Num.runTo (byt s) s.size ((b + 1)) = k) := by
                        show _ = _
                        rw [← hrun.out]
                        exact Num.runTo_stop (fun h => hd (by rw [← HB.out]; exact h.2))
                      clear hrun hd
                      go_wp2_with fail
                      refine (isDigit_any _ _).mono ?_
                      rintro e w' ⟨rfl, rfl⟩
                      rw [hd']
                      go_wp2_with fail
                      go_meet
                      case rel => exact ⟨rfl, by rw [hr.out], by rw [hr.out]⟩
                  · have hr : Hid (Num.runTo (byt s) s.size ((b + 1)) = k) := by
                      show _ = _
                      rw [← hrun.out]
                      exact Num.runTo_stop (fun h => hlt h.1)
                    clear hrun
                    go_wp2_with fail
                    go_meet
                    case rel => exact ⟨rfl, by rw [hr.out], by rw [hr.out]⟩
              case rest =>
                obtain ⟨rfl, rfl, rfl⟩ := hcut
                have hc1 := Num.runTo_ge (byt s) s.size (b + 1)
                go_wp2_with fail
                go_meet
                case rel =>
                  refine ⟨rfl, by rw [if_pos H.out], ?_⟩
                  rw [if_pos H.out]
                  congr 1
                  omega
            · have H := hideE hp
              rw [decide_eq_false hp]
              clear hp
              go_wp2_with fail
              go_meet
              case rel =>
                refine ⟨rfl, by rw [if_neg H.out], ?_⟩
                rw [if_neg H.out]
                congr 1
                omega
          case rest =>
            obtain ⟨rfl, rfl, rfl⟩ := hcut
            have HT : Hid (Num.numLen (byt s) s.size = if (if b < s.size ∧ byt s b = 46 then (b - a) + (Num.runTo (byt s) s.size (b + 1) - (b + 1)) else b - a) = 0 then 0 else Num.expo (byt s) s.size (if b < s.size ∧ byt s b = 46 then Num.runTo (byt s) s.size (b + 1) else b)) := by
              show _ = _
              rw [HE'.out]
              by_cases hp : b < s.size ∧ byt s b = 46
              · simp only [if_pos hp]
              · simp only [if_neg hp]
            have hd : (if b < s.size ∧ byt s b = 46 then (b - a) + (Num.runTo (byt s) s.size (b + 1) - (b + 1)) else b - a) ≤ s.size := by
              split
              · have := Num.runTo_le (f := byt s) (N := s.size) (e := b + 1) (by omega)
                omega
              · omega
            have he : (if b < s.size ∧ byt s b = 46 then Num.runTo (byt s) s.size (b + 1) else b) ≤ s.size := by
              split
              · exact Num.runTo_le (f := byt s) (N := s.size) (e := b + 1) (by omega)
              · exact hb2
            generalize (if b < s.size ∧ byt s b = 46 then (b - a) + (Num.runTo (byt s) s.size (b + 1) - (b + 1)) else b - a) = d at *
            generalize (if b < s.size ∧ byt s b = 46 then Num.runTo (byt s) s.size (b + 1) else b) = e at *
            clear HE' hb1 hb2 ha
            by_cases h0 : d = 0
            · have hR : Hid (Num.numLen (byt s) s.size = 0) := by show _ = _; rw [HT.out, if_pos h0]
              subst h0
              clear HT
              go_wp2_with fail
              go_ret
              exact ⟨by rw [hR.out]; rfl, rfl⟩
            · have hR : Hid (Num.numLen (byt s) s.size = Num.expo (byt s) s.size e) := by show _ = _; rw [HT.out, if_neg h0]
              have h0' : ((d : Int) == 0) = false := by simp; omega
              clear HT h0
              go_upto_region 15 with fail
              go_cut [82] (fun B w' => w' = wc ∧ B = .bool (decide (e < s.size ∧ Num.isE (byt s e) = true)))
              case first =>
                by_cases hN : e < s.size
                · have HB : Hid (byt s e = (s[e].toNat : Int)) := byt_at hN
                  by_cases h1 : (s[e].toNat : Int) = 101
                  · have h1' : ((s[e].toNat : Int) == 101) = true := by simpa using h1
                    have hQ : Hid (decide (e < s.size ∧ Num.isE (byt s e) = true) = true) := by show _ = _; simp [Num.isE, HB.out, h1, hN]
                    clear h1
                    go_wp2_with fail
                    go_meet
                    case rel => exact ⟨rfl, by rw [hQ.out]⟩
                  have h1' : ((s[e].toNat : Int) == 101) = false := by simpa using h1
                  by_cases h2 : (s[e].toNat : Int) = 69
                  · have h2' : ((s[e].toNat : Int) == 69) = true := by simpa using h2
                    have hQ : Hid (decide (e < s.size ∧ Num.isE (byt s e) = true) = true) := by show _ = _; simp [Num.isE, HB.out, h2, hN]
                    clear h1 h2
                    go_wp2_with fail
                    go_meet
                    case rel => exact ⟨rfl, by rw [hQ.out]⟩
                  have h2' : ((s[e].toNat : Int) == 69) = false := by simpa using h2
                  have hQ : Hid (decide (e < s.size ∧ Num.isE (byt s e) = true) = false) := by show _ = _; simp [Num.isE, HB.out, h1', h2']
                  clear h1 h2
                  go_wp2_with fail
                  go_meet
                  case rel => exact ⟨rfl, by rw [hQ.out]⟩
                · have hQ : Hid (decide (e < s.size ∧ Num.isE (byt s e) = true) = false) := by show _ = _; simp [hN]
                  go_wp2_with fail
                  go_meet
                  case rel => exact ⟨rfl, by rw [hQ.out]⟩
              case rest =>
                obtain ⟨rfl, rfl⟩ := hcut
                by_cases hp : e < s.size ∧ Num.isE (byt s e) = true
                rotate_left
                · have hQ : Hid (Num.numLen (byt s) s.size = e) := by show _ = _; rw [hR.out]; unfold Num.expo; rw [if_neg hp]
                  rw [decide_eq_false hp]
                  clear hp hR
                  go_wp2_with fail
                  go_ret
                  exact ⟨by rw [hQ.out]; rfl, rfl⟩
                · rw [decide_eq_true hp]
                  have hQ : Hid (Num.numLen (byt s) s.size = (let x := if e + 1 < s.size ∧ Num.isS (byt s (e + 1)) = true then e + 2 else e + 1; if x < Num.runTo (byt s) s.size x then Num.runTo (byt s) s.size x else e)) := by show _ = _; rw [hR.out]; unfold Num.expo; rw [if_pos hp]
                  have heN := hp.1
                  clear hp hR
                  go_upto_region 17 with fail
                  go_cut [100] (fun B w' => w' = wc ∧ B = .bool (decide (e + 1 < s.size ∧ Num.isS (byt s (e + 1)) = true)))
                  case first =>
                    by_cases hN : e + 1 < s.size
                    · have HB : Hid (byt s (e + 1) = (s[e + 1].toNat : Int)) := byt_at hN
                      by_cases h1 : (s[e + 1].toNat : Int) = 43
                      · have h1' : ((s[e + 1].toNat : Int) == 43) = true := by simpa using h1
                        have hK : Hid (decide (e + 1 < s.size ∧ Num.isS (byt s (e + 1)) = true) = true) := by show _ = _; simp [Num.isS, HB.out, h1, hN]
                        clear h1
                        go_wp2_with fail
                        go_meet
                        case rel => exact ⟨rfl, by rw [hK.out]⟩
                      have h1' : ((s[e + 1].toNat : Int) == 43) = false := by simpa using h1
                      by_cases h2 : (s[e + 1].toNat : Int) = 45
                      · have h2' : ((s[e + 1].toNat : Int) == 45) = true := by simpa using h2
                        have hK : Hid (decide (e + 1 < s.size ∧ Num.isS (byt s (e + 1)) = true) = true) := by show _ = _; simp [Num.isS, HB.out, h2, hN]
                        clear h1 h2
                        go_wp2_with fail
                        go_meet
                        case rel => exact ⟨rfl, by rw [hK.out]⟩
                      have h2' : ((s[e + 1].toNat : Int) == 45) = false := by simpa using h2
                      have hK : Hid (decide (e + 1 < s.size ∧ Num.isS (byt s (e + 1)) = true) = false) := by show _ = _; simp [Num.isS, HB.out, h1', h2']
                      clear h1 h2
                      go_wp2_with fail
                      go_meet
                      case rel => exact ⟨rfl, by rw [hK.out]⟩
                    · have hK : Hid (decide (e + 1 < s.size ∧ Num.isS (byt s (e + 1)) = true) = false) := by show _ = _; simp [hN]
                      go_wp2_with fail
                      go_meet
                      case rel => exact ⟨rfl, by rw [hK.out]⟩
                  case rest =>
                    obtain ⟨rfl, rfl⟩ := hcut
                    go_upto_if 100 with fail
                    go_cut [5] (fun E w' => w' = wc ∧ E = .int .i64 (if e + 1 < s.size ∧ Num.isS (byt s (e + 1)) = true then e + 2 else e + 1 : Nat))
                    case first =>
                      by_cases hp : e + 1 < s.size ∧ Num.isS (byt s (e + 1)) = true
                      · have H := hideE hp
                        rw [decide_eq_true hp]
                        clear hp
                        go_wp2_with fail
                        go_meet
                        case rel =>
                          refine ⟨rfl, ?_⟩
                          rw [if_pos H.out]
                          congr 1
                      · have H := hideE hp
                        rw [decide_eq_false hp]
                        clear hp
                        go_wp2_with fail
                        go_meet
                        case rel =>
                          refine ⟨rfl, ?_⟩
                          rw [if_neg H.out]
                          congr 1
                    case rest =>
                      obtain ⟨rfl, rfl⟩ := hcut
                      have hx : (if e + 1 < s.size ∧ Num.isS (byt s (e + 1)) = true then e + 2 else e + 1) ≤ s.size := by split <;> omega
                      have hQ' := hQ.out
                      simp only at hQ'
                      clear hQ
                      generalize (if e + 1 < s.size ∧ Num.isS (byt s (e + 1)) = true then e + 2 else e + 1) = x at *
                      have hQ := hideE hQ'
                      clear hQ'
                      go_upto_block 4 with fail
                      go_cut [6] (fun E w' => w' = wc ∧ E = .int .i64 (Num.runTo (byt s) s.size x : Nat))
                      case first =>
                        go_wp2_with fail
                        go_loop [6] (fun E => ∃ k : Nat, E = .int .i64 k ∧ x ≤ k ∧ k ≤ s.size ∧ Hid (Num.runTo (byt s) s.size k = Num.runTo (byt s) s.size x)) (fun E => s.size - (intOf E).toNat)
                        case atStart => exact ⟨x, by go_num, Nat.le_refl _, hx, rfl⟩
                        case round =>
                          obtain ⟨k, rfl, hk1, hk2, hrun⟩ := hrel
                          by_cases hlt : k < s.size
                          · have HB : Hid (byt s k = (s[k].toNat : Int)) := byt_at hlt
                            by_cases hd : Num.isD (s[k].toNat : Int) = true
                            · have hr : Hid (Num.runTo (byt s) s.size (k + 1) = Num.runTo (byt s) s.size x) := by
                                show _ = _
                                rw [← hrun.out]
                                exact (Num.runTo_step hlt (by rw [HB.out]; exact hd)).symm
                              clear hrun
                              go_wp2_with fail
                              refine (isDigit_any _ _).mono ?_
                              rintro e w' ⟨rfl, rfl⟩
                              rw [hd]
                              clear hd
                              go_wp2
                              go_round
                              case rel => exact ⟨k + 1, by go_num, by omega, by omega, hr⟩
                              case measure => simp [intOf]; omega
                            · have hd' : Num.isD (s[k].toNat : Int) = false := by simpa using hd
                              have hr : Hid (Num.runTo (byt s) s.size x = k) := by
                                show _ = _
                                rw [← hrun.out]
                                exact Num.runTo_stop (fun h => hd (by rw [← HB.out]; exact h.2))
                              clear hrun hd
                              go_wp2_with fail
                              refine (isDigit_any _ _).mono ?_
                              rintro e w' ⟨rfl, rfl⟩
                              rw [hd']
                              go_wp2_with fail
                              go_meet
                              case rel => exact ⟨rfl, by rw [hr.out]⟩
                          · have hr : Hid (Num.runTo (byt s) s.size x = k) := by
                              show _ = _
                              rw [← hrun.out]
                              exact Num.runTo_stop (fun h => hlt h.1)
                            clear hrun
                            go_wp2_with fail
                            go_meet
                            case rel => exact ⟨rfl, by rw [hr.out]⟩
                      case rest =>
                        obtain ⟨rfl, rfl⟩ := hcut
                        have hl := Num.runTo_ge (byt s) s.size x
                        have hl2 := Num.runTo_le (f := byt s) hx
                        have hQ' := hQ.out
                        clear hQ
                        generalize Num.runTo (byt s) s.size x = l at *
                        have hQ := hideE hQ'
                        clear hQ'
                        by_cases hgt : x < l
                        · have hF : Hid (Num.numLen (byt s) s.size = l) := by show _ = _; rw [hQ.out, if_pos hgt]
                          clear hQ
                          go_wp2_with fail
                          go_ret
                          exact ⟨by rw [hF.out]; rfl, rfl⟩
                        · have hF : Hid (Num.numLen (byt s) s.size = e) := by show _ = _; rw [hQ.out, if_neg hgt]
                          clear hQ
                          go_wp2_with fail
                          go_ret
                          exact ⟨by rw [hF.out]; rfl, rfl⟩

theorem zlen_any (s : ByteArray) (w : World) (hs : s.size ≤ 1048576) :
    Calls Try.prog 8 #[.string s] w fun e w' => e = .returned (.int .i64 (Num.numLen (byt s) s.size)) ∧ w' = w := by
  go_enter Try.func8, Try.ntmps8
  go_wp2_with fail
  refine (len_any s w hs).mono ?_
  rintro e w' ⟨rfl, rfl⟩
  go_wp2
  go_ret
  exact ⟨rfl, rfl⟩

theorem bytes7 (s : ByteArray) (w : World) :
    Calls Try.prog 7 #[.string s] w fun e w' => (∃ r, e = .returned (.bool r)) ∧ w' = w := by
  go_enter Try.func7, Try.ntmps7
  go_wp2
  all_goals (go_ret; exact ⟨⟨_, rfl⟩, rfl⟩)

theorem law_any (s : ByteArray) (w : World) (hl : s.size ≤ maxLen) :
    Calls Try.prog 3 #[.string s] w fun e w' => e = .returned (.bool true) ∧ w' = w := by
  unfold maxLen at hl
  by_cases hs : s.size ≤ 1048576
  · go_enter Try.func3, Try.ntmps3
    go_wp2_with fail
    refine (bytes7 _ _).mono ?_
    rintro e w' ⟨⟨r, rfl⟩, rfl⟩
    cases r
    · go_wp2
      go_ret
      exact ⟨rfl, rfl⟩
    · go_wp2_with fail
      refine (zlen_any s _ hs).mono ?_
      rintro e w' ⟨rfl, hw⟩
      subst hw
      go_wp2_with fail
      refine (auto_any s _ hs).mono ?_
      rintro e w' ⟨rfl, hw⟩
      subst hw
      rw [Num.auto_numLen]
      go_wp2
      go_ret
      exact ⟨by simp, rfl⟩
  · go_enter Try.func3, Try.ntmps3
    go_wp2_with fail
    refine (bytes7 _ _).mono ?_
    rintro e w' ⟨⟨r, rfl⟩, rfl⟩
    cases r
    · go_wp2
      go_ret
      exact ⟨rfl, rfl⟩
    · go_wp2
      go_ret
      exact ⟨rfl, rfl⟩
end Go.Proofs.Qxb6601739a

/-
  The law, walked.
-/
import Derived.Test.Qxb6601852aOn
import Derived.Test.Qxb6601852aCyc
namespace Go.Proofs.Qxb6601852a
open Go.ChangeShapes Go.WideShapes Go.ChangeAt Go.RowKit

namespace Gr
/-- The least distance among the first k successors of v. -/
def Best (e : Nat → Nat → Nat) (d : Nat → Int) (v k : Nat) (b : Int) : Prop :=
  (b = -1 ∧ ∀ k', k' < k → d (e v k') < 0) ∨ (0 ≤ b ∧ (∃ p, p < k ∧ d (e v p) = b) ∧ ∀ k', k' < k → 0 ≤ d (e v k') → b ≤ d (e v k'))

section
variable {L : Nat → Nat} {e : Nat → Nat → Nat} {n v : Nat} {d : Nat → Int} {b : Int}
theorem Best.skip {k : Nat} (h : Best e d v k b) (hs : d (e v k) < 0 ∨ (0 ≤ b ∧ b ≤ d (e v k))) : Best e d v (k + 1) b := by
  rcases h with ⟨h1, h2⟩ | ⟨h1, ⟨p, h2, h3⟩, h4⟩
  · refine Or.inl ⟨h1, fun k' hk => ?_⟩
    by_cases e0 : k' = k
    · subst e0; omega
    · exact h2 k' (by omega)
  · refine Or.inr ⟨h1, ⟨p, by omega, h3⟩, fun k' hk h0 => ?_⟩
    by_cases e0 : k' = k
    · subst e0; omega
    · exact h4 k' (by omega) h0
theorem Best.take {k : Nat} (h : Best e d v k b) (h0 : 0 ≤ d (e v k)) (hs : b < 0 ∨ d (e v k) < b) : Best e d v (k + 1) (d (e v k)) := by
  refine Or.inr ⟨h0, ⟨k, by omega, rfl⟩, fun k' hk h1 => ?_⟩
  by_cases e0 : k' = k
  · subst e0; exact Int.le_refl _
  · rcases h with ⟨h2, h3⟩ | ⟨h2, _, h3⟩
    · have := h3 k' (by omega); omega
    · have := h3 k' (by omega) h1; omega
theorem Best.none (h : Best e d v (L v) b) (hd : IsDist (Ed L e) n v d) (hW : WF L e n) (hv : v < n) (hb : b < 0) : ¬ OC L e v := by
  rintro ⟨w, ⟨k, hk, rfl⟩, c, hc⟩
  have h1 := hd.le (hW.lt v hv k hk) hc
  rcases h with ⟨_, h2⟩ | ⟨h2, _⟩
  · have := h2 k hk; omega
  · omega
theorem Best.some (h : Best e d v (L v) b) (hd : IsDist (Ed L e) n v d) (hW : WF L e n) (hv : v < n) (hb : 0 ≤ b) (hlt : ∀ x, x < n → d x < n) :
    OC L e v ∧ 1 ≤ b ∧ b < n ∧ (∃ p, p < L v ∧ d (e v p) = b) ∧ ∀ N : Nat, (N : Int) = b + 1 → Least L e v N := by
  rcases h with ⟨h1, _⟩ | ⟨_, ⟨p, h2, h3⟩, h4⟩
  · omega
  · have hpn := hW.lt v hv p h2
    refine ⟨⟨e v p, ⟨p, h2, rfl⟩, _, hd.walk hpn (by omega)⟩, ?_, by have := hlt _ hpn; omega, ⟨p, h2, h3⟩, fun N hN x hx hw => ?_⟩
    · by_cases e0 : b = 0
      · exact absurd (hd.zero hpn (by omega)) (hW.ne v hv p h2)
      · omega
    · obtain ⟨y, rfl⟩ : ∃ y, x = y + 1 := ⟨x - 1, by omega⟩
      obtain ⟨u, ⟨k, hk, rfl⟩, hu⟩ := hw
      obtain ⟨h5, h6⟩ := hd.le (hW.lt v hv k hk) hu
      have := h4 k hk h5
      omega
end
end Gr

theorem zzc_any {w : World} {B n N : Nat} {c : Nat → Nat} (h : Hid (Calls Try.prog 30 #[.slice (some ⟨B, 0, none⟩) n n] w (CycPost N c w))) : Calls Try.prog 21 #[.slice (some ⟨B, 0, none⟩) n n] w (CycPost N c w) := by
  go_enter Try.func21, Try.ntmps21
  go_wp2_with fail
  refine h.out.mono ?_
  rintro e w' ⟨g, cap, rfl, h1, h2⟩
  go_wp2
  go_ret
  exact ⟨g, cap, rfl, h1, h2⟩

def LawPost (w : World) (en : Ending) (w' : World) : Prop := en = .returned (.bool true) ∧ Below w.heap.size w w'

/-- The vertex is found: its distances lie in memory. -/
structure Hit (w : World) (L : Nat → Nat) (e : Nat → Nat → Nat) (n s N bd : Nat) (d : Nat → Int) : Prop where
  row : w.rowIs bd 3 n (fun v => .int .i64 (d v))
  dist : Gr.IsDist (Gr.Ed L e) n s d
  sn : s < n
  oc : Gr.OC L e s
  least : Gr.Least L e s N
  first : ∃ p, p < L s ∧ d (e s p) = (N : Int) - 1
  two : 2 ≤ N ∧ N ≤ n

set_option maxRecDepth 100000 in
set_option maxHeartbeats 8000000 in
theorem law_any {w : World} {a : Option Addr} {n : Nat} {A : Nat → Option Addr} {L C : Nat → Nat} {Z : Nat → Nat → Int} (c0 : Nat) (h : InG w a n A L C Z) :
    Calls Try.prog 5 #[.slice a n c0] w (LawPost w) := by
  go_enter Try.func5, Try.ntmps5
  go_wp2_with fail
  refine (bytes_any c0 h).mono ?_
  rintro en w' ⟨⟨r, rfl⟩, rfl⟩
  cases r
  · go_wp2
    go_ret
    exact ⟨rfl, Below.refl _ _⟩
  go_wp2_with fail
  refine (big_any c0 h).mono ?_
  rintro en w' ⟨rfl | ⟨rfl, hn, hL⟩, rfl⟩
  · go_wp2
    go_ret
    exact ⟨rfl, Below.refl _ _⟩
  have hL : Hid (∀ r, r < n → L r ≤ 131072) := hL
  go_wp2_with fail
  refine (wf_any c0 h hn hL).mono ?_
  rintro en w' ⟨rfl | ⟨rfl, hZ⟩, rfl⟩
  · go_wp2
    go_ret
    exact ⟨rfl, Below.refl _ _⟩
  have hW : Hid (Gr.WF L (fun r k => (Z r k).toNat) n) := ⟨fun v hv k hk => by have := hZ v hv k hk; show (Z v k).toNat < n; omega, fun v hv k hk => by have := hZ v hv k hk; show (Z v k).toNat ≠ v; omega⟩
  have hZe : Hid (∀ r, r < n → ∀ k, k < L r → Z r k = ((fun r k => (Z r k).toNat) r k : Nat)) := fun v hv k hk => by have := hZ v hv k hk; show Z v k = ((Z v k).toNat : Int); omega
  clear hZ
  generalize (fun r k => (Z r k).toNat) = e at hW hZe
  go_wp2_with fail
  refine (cloneG_any a n c0 A L C Z e w' h hn hL hZe).mono ?_
  rintro en w1 ⟨a1, A1, rfl, hG, hB1⟩
  clear h hZe
  go_wp2_with fail
  refine (rev_any hG hW.out hn hL).mono ?_
  rintro en w2 ⟨b2, G, M, CP, F, rfl, hR, hrev, hB2⟩
  have hrev : Hid (IsRev L e n M F) := hrev
  have hG2 := hG.later hB2
  have hB3 : Below w'.heap.size w' w2 := hB1.trans (hB2.mono hB1.size)
  have hs1 := hB1.size
  have hs2 := hB2.size
  clear hG hB1 hB2
  go_wp2_with fail
  go_loopg [4, 5, 6, 7] (n + 1) (fun gm X Y Zz V wr => Below w2.heap.size w2 wr ∧ ((∃ v : Nat, v ≤ n ∧ X = .int .i64 (-1) ∧ V = .int .i64 v ∧ gm = n + 1 - v ∧ Hid (∀ u, u < v → ¬ Gr.OC L e u)) ∨
    (∃ (s N bd : Nat) (d : Nat → Int), X = .int .i64 s ∧ Y = .int .i64 N ∧ Zz = .slice (some ⟨bd, 0, none⟩) n n ∧ V = .int .i64 ((s + 1 : Nat) : Int) ∧ gm = 0 ∧ Hid (Hit wr L e n s N bd d) ∧ Hid (∀ u, u < s → ¬ Gr.OC L e u))))
  case atStart => exact ⟨Below.refl _ _, Or.inl ⟨0, Nat.zero_le _, rfl, rfl, rfl, fun u hu => absurd hu (by omega)⟩⟩
  case round =>
    obtain ⟨hb, ⟨v, hv, rfl, rfl, hg, hno⟩ | ⟨s, N, bd, d, rfl, rfl, rfl, rfl, hg, hit, hno⟩⟩ := hrel
    · by_cases hlt : (v : Int) < n
      · have hv' : v < n := by omega
        go_wp2_with fail
        refine (dist_any (hR.later hb) hrev hW.out hn hv').mono ?_
        rintro en w3 ⟨d, rfl, hrow, hd, hbd, hb3⟩
        have hd : Hid (Gr.IsDist (Gr.Ed L e) n v d) := hd
        have hbd : Hid (∀ v, v < n → -1 ≤ d v ∧ d v < n) := hbd
        have hb4 : Below w2.heap.size w2 w3 := hb.trans (hb3.mono hb.size)
        have hG3 := hG2.later hb4
        obtain ⟨rfl, hBB, hc0⟩ := hG3.row v hv'
        have hLv := hL.out v hv'
        have hbdlt := hrow.lt
        clear hb3 hb
        generalize wr.heap.size = bd at hrow hbdlt ⊢
        go_wp2_with fail
        go_loopg [9, 10] (L v) (fun gm X Y wr => ∃ (k : Nat) (b : Int), k ≤ L v ∧ X = .int .i64 b ∧ Y = .int .i64 k ∧ gm = L v - k ∧ wr = w3 ∧ -1 ≤ b ∧ b < n ∧ Hid (Gr.Best e d v k b))
        case atStart => exact ⟨0, -1, Nat.zero_le _, rfl, rfl, rfl, rfl, by omega, by omega, Or.inl ⟨rfl, fun k' hk => absurd hk (by omega)⟩⟩
        case round =>
          obtain ⟨k, b, hk, rfl, rfl, hgk, rfl, hb1, hb2, hbest⟩ := hrel
          by_cases hlt' : (k : Int) < L v
          · have hk' : k < L v := by omega
            obtain ⟨bb, hc1, hc2⟩ := hG3.at hv' hk'
            have hxn := hW.out.lt v hv' k hk'
            have c3 := hrow.cell hxn
            have hdx := hbd.out _ hxn
            have ix : ((e v k : Nat) : Int) < n := by omega
            by_cases hge : d (e v k) ≥ 0
            · by_cases hbn : b < 0
              · have hB2 : Hid (Gr.Best e d v (k + 1) (d (e v k))) := hbest.out.take hge (Or.inl hbn)
                clear hbest hc0
                go_wp2
                go_roundg (L v - (k + 1))
                case measure => omega
                case rel => exact ⟨k + 1, _, by omega, rfl, by go_num, rfl, rfl, by omega, by omega, hB2⟩
              · by_cases hlb : d (e v k) < b
                · have hB2 : Hid (Gr.Best e d v (k + 1) (d (e v k))) := hbest.out.take hge (Or.inr hlb)
                  clear hbest hc0
                  go_wp2
                  go_roundg (L v - (k + 1))
                  case measure => omega
                  case rel => exact ⟨k + 1, _, by omega, rfl, by go_num, rfl, rfl, by omega, by omega, hB2⟩
                · have hB2 : Hid (Gr.Best e d v (k + 1) b) := hbest.out.skip (Or.inr ⟨by omega, by omega⟩)
                  clear hbest hc0
                  go_wp2
                  go_roundg (L v - (k + 1))
                  case measure => omega
                  case rel => exact ⟨k + 1, _, by omega, rfl, by go_num, rfl, rfl, by omega, by omega, hB2⟩
            · have hB2 : Hid (Gr.Best e d v (k + 1) b) := hbest.out.skip (Or.inl (by omega))
              clear hbest hc0
              go_wp2
              go_roundg (L v - (k + 1))
              case measure => omega
              case rel => exact ⟨k + 1, _, by omega, rfl, by go_num, rfl, rfl, by omega, by omega, hB2⟩
          · have hkL : k = L v := by omega
            have hbest2 : Hid (Gr.Best e d v (L v) b) := by rw [← hkL]; exact hbest
            clear hbest hkL
            by_cases hb0 : b ≥ 0
            · obtain ⟨N, hNb⟩ : ∃ N : Nat, (N : Int) = b + 1 := ⟨(b + 1).toNat, by omega⟩
              obtain ⟨h1, h2, h3, h4, h5⟩ := hbest2.out.some hd.out hW.out hv' hb0 (fun x hx => (hbd.out x hx).2)
              have hit : Hid (Hit wr L e n v N bd d) := ⟨hrow, hd.out, hv', h1, h5 N hNb, by obtain ⟨p, h6, h7⟩ := h4; exact ⟨p, h6, by omega⟩, by omega⟩
              have hNb' : Hid ((N : Int) = b + 1) := hNb
              clear hbest2 h1 h4 h5 hNb
              go_wp2
              go_roundg 0
              case measure => omega
              case rel => exact ⟨hb4, Or.inr ⟨v, N, bd, d, rfl, by rw [hNb'.out], rfl, by go_num, rfl, hit, hno⟩⟩
            · have hno2 : Hid (∀ u, u < v + 1 → ¬ Gr.OC L e u) := fun u hu => by
                by_cases e0 : u = v
                · subst e0; exact hbest2.out.none hd.out hW.out hv' (by omega)
                · exact hno.out u (by omega)
              clear hbest2 hno
              go_wp2
              go_roundg (n + 1 - (v + 1))
              case measure => omega
              case rel => exact ⟨hb4, Or.inl ⟨v + 1, by omega, rfl, by go_num, rfl, hno2⟩⟩
      · go_wp2
        go_ret
        exact ⟨rfl, hB3.trans (hb.mono (by omega))⟩
    · obtain ⟨hrow, hd, hsn, hoc, hle, hfi, hN2, hNn⟩ := hit.out
      have hG3 := hG2.later hb
      obtain ⟨rfl, hBB, -⟩ := hG3.row s hsn
      have hnil := fun wx a n c n' c' => Lib.run_eql_slice_nil (P := Try.prog) wx 28 3 a n c n' c' Try.underlying28
      have hs0 : ¬ ((s : Int) < 0) := by omega
      have hd : Hid (Gr.IsDist (Gr.Ed L e) n s d) := hd
      clear hg
      go_upto_region 13 with fail
      go_cut [33] from 26 to 32 (fun X w' => w' = wr ∧ X = .bool false)
      case first =>
        by_cases hls : ((s + 1 : Nat) : Int) < n
        · go_wp2_with fail
          go_meet
          case rel => exact ⟨rfl, rfl⟩
        · have hls' : decide (((s + 1 : Nat) : Int) < n) = false := decide_eq_false hls
          go_wp2_with fail
          go_meet
          case rel => exact ⟨rfl, rfl⟩
      case rest =>
        obtain ⟨rfl, rfl⟩ := hcut
        go_upto_region 27 with fail
        go_wp2_with fail
        refine (greedy_any hG3 hW.out hn hL hrow hd hsn hNn (by omega) hfi).mono ?_
        rintro en w4 ⟨g, cap, c, rfl, hglt, hcells, hch, hb5⟩
        have hG4 := hG3.later hb5
        have hch : Hid (Gr.Ch L e n d s N c) := hch
        have hcells : Hid (∀ k, k < N + 1 → w4.cell? ⟨g, k, none⟩ = some (.int .i64 (c k))) := hcells
        go_wp2_with fail
        refine (zzc_any (cyc_any hG4 hW hn hL hsn hoc hno hch hd hle hN2 hNn (on_any hG4 hW hn hL))).mono ?_
        rintro en w5 ⟨g', cap', rfl, hcells', hb6⟩
        have hcells' : Hid (∀ k, k < N + 1 → w5.cell? ⟨g', k, none⟩ = some (.int .i64 (c k))) := hcells'
        go_wp2_with fail
        refine (equal_any (f := fun k => (c k : Int)) (by omega) hcells'.out (fun k hk => (hb6.cell (p := ⟨g, k, none⟩) hglt).trans (hcells.out k hk))).mono ?_
        rintro en w6 ⟨rfl, hb7⟩
        have hs3 := hb.size
        have hs5 := hb5.size
        have hs6 := hb6.size
        go_wp2
        go_ret
        exact ⟨rfl, (((hB3.trans (hb.mono (by omega))).trans (hb5.mono (by omega))).trans (hb6.mono (by omega))).trans (hb7.mono (by omega))⟩
end Go.Proofs.Qxb6601852a

/-
  onCycle: the two loops that take a component off the stack, walked.
-/
import Derived.Test.Qxb6601852aPath
namespace Go.Proofs.Qxb6601852a
open Go.ChangeShapes Go.WideShapes Go.ChangeAt Go.RowKit

/-- The bodies of a text's loops, in their order. -/
def loopsOf : Code → List Code
  | .loop c => c :: loopsOf c
  | .seq a b => loopsOf a ++ loopsOf b
  | .block _ c => loopsOf c
  | .scope c => loopsOf c
  | .cond _ a b => loopsOf a ++ loopsOf b
  | _ => []

set_option maxRecDepth 100000 in
set_option maxHeartbeats 4000000 in
theorem l3_wp {w : World} {M sg z scap : Nat} {S : Nat → Nat} {v : Nat} (hV : Vec w M (some ⟨sg, 0, none⟩) z scap (fun i => (S i : Int))) (hz : z ≤ 4096) (hin : Hid (∃ a, a < z ∧ S a = v)) (Q0 : Exit → Act → World → Prop) (u0 u1 u2 u3 u4 u5 u7 u8 u9 u10 u11 u12 u14 u16 u17 u18 u19 u20 u21 u22 u23 u24 u25 u26 u27 u28 u29 u30 u31 u32 u33 u34 u35 u36 u37 u38 u39 u40 u41 u42 u43 u44 u45 u46 u47 u48 u49 u50 u51 u52 u53 u54 u55 u56 u57 u58 u59 u60 u61 u62 u63 u64 u65 u66 u67 u68 u69 u70 u71 u72 u73 u74 u75 u76 u77 u78 u79 u80 u81 u82 u83 u84 u85 u86 u87 u88 u89 u90 u91 u92 u93 u94 u95 u96 u97 u98 u99 u100 u101 u102 u103 u104 u105 u106 u107 u108 u109 u110 u111 u112 u113 u114 u115 u116 u117 u118 u119 u120 u121 u122 u123 u124 u125 u126 u127 u128 u129 u130 u131 u132 u133 u134 u135 u136 u137 u138 u139 u140 u141 u142 u143 u144 u145 u146 u147 u148 u149 u150 u151 u152 u153 u154 u155 u156 u157 u158 u159 u160 u161 u162 u163 u164 u165 u166 u167 u168 u169 u170 u171 u172 u173 u174 u175 u176 u177 u178 u179 u180 u181 u182 u183 u184 u185 u186 u187 u188 u189 u190 u191 u192 u193 u194 u195 u196 u197 u198 u199 u200 u201 u202 u203 u204 u205 u206 u207 u208 u209 u210 u211 u212 u213 u214 u215 u216 u217 u218 u219 u220 u221 u222 u223 u224 u225 u226 u227 : Value)
    (hexit : Hid (∀ (v195 v196 v197 v198 v199 v200 v201 v202 : Value) (k : Nat), k < z → S k = v → Q0 (.exit 5) ⟨List.toArray (u0 :: u1 :: u2 :: u3 :: u4 :: u5 :: Value.slice (some ⟨sg, 0, none⟩) z scap :: u7 :: u8 :: u9 :: u10 :: u11 :: u12 :: Value.int .i64 v :: u14 :: Value.int .i64 k :: u16 :: u17 :: u18 :: u19 :: u20 :: u21 :: u22 :: u23 :: u24 :: u25 :: u26 :: u27 :: u28 :: u29 :: u30 :: u31 :: u32 :: u33 :: u34 :: u35 :: u36 :: u37 :: u38 :: u39 :: u40 :: u41 :: u42 :: u43 :: u44 :: u45 :: u46 :: u47 :: u48 :: u49 :: u50 :: u51 :: u52 :: u53 :: u54 :: u55 :: u56 :: u57 :: u58 :: u59 :: u60 :: u61 :: u62 :: u63 :: u64 :: u65 :: u66 :: u67 :: u68 :: u69 :: u70 :: u71 :: u72 :: u73 :: u74 :: u75 :: u76 :: u77 :: u78 :: u79 :: u80 :: u81 :: u82 :: u83 :: u84 :: u85 :: u86 :: u87 :: u88 :: u89 :: u90 :: u91 :: u92 :: u93 :: u94 :: u95 :: u96 :: u97 :: u98 :: u99 :: u100 :: u101 :: u102 :: u103 :: u104 :: u105 :: u106 :: u107 :: u108 :: u109 :: u110 :: u111 :: u112 :: u113 :: u114 :: u115 :: u116 :: u117 :: u118 :: u119 :: u120 :: u121 :: u122 :: u123 :: u124 :: u125 :: u126 :: u127 :: u128 :: u129 :: u130 :: u131 :: u132 :: u133 :: u134 :: u135 :: u136 :: u137 :: u138 :: u139 :: u140 :: u141 :: u142 :: u143 :: u144 :: u145 :: u146 :: u147 :: u148 :: u149 :: u150 :: u151 :: u152 :: u153 :: u154 :: u155 :: u156 :: u157 :: u158 :: u159 :: u160 :: u161 :: u162 :: u163 :: u164 :: u165 :: u166 :: u167 :: u168 :: u169 :: u170 :: u171 :: u172 :: u173 :: u174 :: u175 :: u176 :: u177 :: u178 :: u179 :: u180 :: u181 :: u182 :: u183 :: u184 :: u185 :: u186 :: u187 :: u188 :: u189 :: u190 :: u191 :: u192 :: u193 :: u194 :: v195 :: v196 :: v197 :: v198 :: v199 :: v200 :: v201 :: v202 :: u203 :: u204 :: u205 :: u206 :: u207 :: u208 :: u209 :: u210 :: u211 :: u212 :: u213 :: u214 :: u215 :: u216 :: u217 :: u218 :: u219 :: u220 :: u221 :: u222 :: u223 :: u224 :: u225 :: u226 :: u227 :: []), []⟩ w)) :
    Code.wp Try.prog (Code.loop ((loopsOf (Try.f29.body.getD .skip)).getD 2 .skip)) Q0 ⟨List.toArray (u0 :: u1 :: u2 :: u3 :: u4 :: u5 :: Value.slice (some ⟨sg, 0, none⟩) z scap :: u7 :: u8 :: u9 :: u10 :: u11 :: u12 :: Value.int .i64 v :: u14 :: Value.int .i64 ((z : Int) - 1) :: u16 :: u17 :: u18 :: u19 :: u20 :: u21 :: u22 :: u23 :: u24 :: u25 :: u26 :: u27 :: u28 :: u29 :: u30 :: u31 :: u32 :: u33 :: u34 :: u35 :: u36 :: u37 :: u38 :: u39 :: u40 :: u41 :: u42 :: u43 :: u44 :: u45 :: u46 :: u47 :: u48 :: u49 :: u50 :: u51 :: u52 :: u53 :: u54 :: u55 :: u56 :: u57 :: u58 :: u59 :: u60 :: u61 :: u62 :: u63 :: u64 :: u65 :: u66 :: u67 :: u68 :: u69 :: u70 :: u71 :: u72 :: u73 :: u74 :: u75 :: u76 :: u77 :: u78 :: u79 :: u80 :: u81 :: u82 :: u83 :: u84 :: u85 :: u86 :: u87 :: u88 :: u89 :: u90 :: u91 :: u92 :: u93 :: u94 :: u95 :: u96 :: u97 :: u98 :: u99 :: u100 :: u101 :: u102 :: u103 :: u104 :: u105 :: u106 :: u107 :: u108 :: u109 :: u110 :: u111 :: u112 :: u113 :: u114 :: u115 :: u116 :: u117 :: u118 :: u119 :: u120 :: u121 :: u122 :: u123 :: u124 :: u125 :: u126 :: u127 :: u128 :: u129 :: u130 :: u131 :: u132 :: u133 :: u134 :: u135 :: u136 :: u137 :: u138 :: u139 :: u140 :: u141 :: u142 :: u143 :: u144 :: u145 :: u146 :: u147 :: u148 :: u149 :: u150 :: u151 :: u152 :: u153 :: u154 :: u155 :: u156 :: u157 :: u158 :: u159 :: u160 :: u161 :: u162 :: u163 :: u164 :: u165 :: u166 :: u167 :: u168 :: u169 :: u170 :: u171 :: u172 :: u173 :: u174 :: u175 :: u176 :: u177 :: u178 :: u179 :: u180 :: u181 :: u182 :: u183 :: u184 :: u185 :: u186 :: u187 :: u188 :: u189 :: u190 :: u191 :: u192 :: u193 :: u194 :: u195 :: u196 :: u197 :: u198 :: u199 :: u200 :: u201 :: u202 :: u203 :: u204 :: u205 :: u206 :: u207 :: u208 :: u209 :: u210 :: u211 :: u212 :: u213 :: u214 :: u215 :: u216 :: u217 :: u218 :: u219 :: u220 :: u221 :: u222 :: u223 :: u224 :: u225 :: u226 :: u227 :: []), []⟩ w := by
  conv => arg 2; arg 1; whnf
  have hz1 : 1 ≤ z := by obtain ⟨a, h, _⟩ := hin.out; omega
  go_loopg [15] z (fun gm X wr => ∃ k : Nat, X = .int .i64 k ∧ k < z ∧ gm = k + 1 ∧ wr = w ∧ Hid (∀ a, k < a → a < z → S a ≠ v))
  case atStart => exact ⟨z - 1, by go_num, by omega, by omega, rfl, fun a h1 h2 => absurd h1 (by omega)⟩
  case round =>
    obtain ⟨k, rfl, hk, hg, rfl, hno⟩ := hrel
    have c1 := hV.cell hk
    have ik : (k : Int) < z := by omega
    by_cases hs : S k = v
    · have hs' : ((S k : Int) != v) = false := by simp; omega
      go_wp2
      exact hexit.out _ _ _ _ _ _ _ _  k hk hs
    · have hs' : ((S k : Int) != v) = true := by simp; omega
      have hk1 : 1 ≤ k := by
        obtain ⟨a, h1, h2⟩ := hin.out
        by_cases e0 : k < a
        · exact absurd h2 (hno.out a e0 h1)
        · by_cases e1 : a = k
          · subst e1; exact absurd h2 hs
          · omega
      have hno2 : Hid (∀ a, k - 1 < a → a < z → S a ≠ v) := fun a h1 h2 => by
        by_cases e1 : a = k
        · subst e1; exact hs
        · exact hno.out a (by omega) h2
      clear hs hno
      go_wp2
      go_roundg k
      case measure => omega
      case rel => exact ⟨k - 1, by go_num, by omega, by omega, rfl, hno2⟩

/-- Of the stack, entries k up to k + j are let go. -/
def Gone (S : Nat → Nat) (z k j : Nat) (held res held' res' : Nat → Bool) : Prop :=
  (∀ a, k ≤ a → a < k + j → held' (S a) = false ∧ res' (S a) = decide (1 < z - k)) ∧ ∀ x, (∀ a, k ≤ a → a < k + j → S a ≠ x) → held' x = held x ∧ res' x = res x
theorem Gone.step {S : Nat → Nat} {z k j : Nat} {held res held' res' : Nat → Bool} (h : Gone S z k j held res held' res') : Gone S z k (j + 1) held res (Gr.upd held' (S (k + j)) false) (Gr.upd res' (S (k + j)) (decide (1 < z - k))) := by
  refine ⟨fun a h1 h2 => ?_, fun x hx => ?_⟩
  · by_cases e0 : S a = S (k + j)
    · rw [e0, Gr.upd_same, Gr.upd_same]; exact ⟨rfl, rfl⟩
    · rw [Gr.upd_other _ _ e0, Gr.upd_other _ _ e0]
      exact h.1 a h1 (by
        have : a ≠ k + j := fun e1 => e0 (by rw [e1])
        omega)
  · have e0 : x ≠ S (k + j) := fun e1 => hx (k + j) (by omega) (by omega) e1.symm
    rw [Gr.upd_other _ _ e0, Gr.upd_other _ _ e0]
    exact h.2 x (fun a h1 h2 => hx a h1 (by omega))

set_option maxRecDepth 100000 in
set_option maxHeartbeats 4000000 in
theorem l4_wp {w0 w : World} {n : Nat} {found low : Nat → Nat} {held res : Nat → Bool} {sg z scap k c5 : Nat} {S : Nat → Nat} {pa : Option Addr} {m pcap : Nat} {pv pi : Nat → Nat} (hTM : TM w0 w n found low held res (some ⟨sg, 0, none⟩) z scap S pa m pcap pv pi)
    (hz : z ≤ 4096) (hk : k < z) (hSn : Hid (∀ a, a < z → S a < n)) (Q0 : Exit → Act → World → Prop) (u0 u1 u2 u3 u4 u7 u9 u10 u11 u12 u13 u14 u16 u17 u18 u19 u20 u21 u22 u23 u24 u25 u26 u27 u28 u29 u30 u31 u32 u33 u34 u35 u36 u37 u38 u39 u40 u41 u42 u43 u44 u45 u46 u47 u48 u49 u50 u51 u52 u53 u54 u55 u56 u57 u58 u59 u60 u61 u62 u63 u64 u65 u66 u67 u68 u69 u70 u71 u72 u73 u74 u75 u76 u77 u78 u79 u80 u81 u82 u83 u84 u85 u86 u87 u88 u89 u90 u91 u92 u93 u94 u95 u96 u97 u98 u99 u100 u101 u102 u103 u104 u105 u106 u107 u108 u109 u110 u111 u112 u113 u114 u115 u116 u117 u118 u119 u120 u121 u122 u123 u124 u125 u126 u127 u128 u129 u130 u131 u132 u133 u134 u135 u136 u137 u138 u139 u140 u141 u142 u143 u144 u145 u146 u147 u148 u149 u150 u151 u152 u153 u154 u155 u156 u157 u158 u159 u160 u161 u162 u163 u164 u165 u166 u167 u168 u169 u170 u171 u172 u173 u174 u175 u176 u177 u178 u179 u180 u181 u182 u183 u184 u185 u186 u187 u188 u189 u190 u191 u192 u193 u194 u195 u196 u197 u198 u199 u200 u201 u202 u203 u204 u208 u209 u210 u211 u212 u213 u214 u215 u216 u217 u218 u219 u220 u221 u222 u223 u224 u225 u226 u227 : Value)
    (hexit : Hid (∀ (v17 v207 v208 v209 v210 v211 v212 v213 v214 v215 v216 v217 v218 v219 v220 v221 v222 : Value) (held' res' : Nat → Bool) (w' : World), TM w0 w' n found low held' res' (some ⟨sg, 0, none⟩) z scap S pa m pcap pv pi → Gone S z k (z - k) held res held' res' → Q0 (.exit 7) ⟨List.toArray (u0 :: u1 :: u2 :: u3 :: u4 :: Value.slice (some ⟨w0.heap.size + 2, 0, none⟩) n n :: Value.slice (some ⟨sg, 0, none⟩) z scap :: u7 :: Value.slice (some ⟨w0.heap.size + 3, 0, none⟩) n n :: u9 :: u10 :: u11 :: u12 :: u13 :: u14 :: Value.int .i64 k :: u16 :: v17 :: u18 :: u19 :: u20 :: u21 :: u22 :: u23 :: u24 :: u25 :: u26 :: u27 :: u28 :: u29 :: u30 :: u31 :: u32 :: u33 :: u34 :: u35 :: u36 :: u37 :: u38 :: u39 :: u40 :: u41 :: u42 :: u43 :: u44 :: u45 :: u46 :: u47 :: u48 :: u49 :: u50 :: u51 :: u52 :: u53 :: u54 :: u55 :: u56 :: u57 :: u58 :: u59 :: u60 :: u61 :: u62 :: u63 :: u64 :: u65 :: u66 :: u67 :: u68 :: u69 :: u70 :: u71 :: u72 :: u73 :: u74 :: u75 :: u76 :: u77 :: u78 :: u79 :: u80 :: u81 :: u82 :: u83 :: u84 :: u85 :: u86 :: u87 :: u88 :: u89 :: u90 :: u91 :: u92 :: u93 :: u94 :: u95 :: u96 :: u97 :: u98 :: u99 :: u100 :: u101 :: u102 :: u103 :: u104 :: u105 :: u106 :: u107 :: u108 :: u109 :: u110 :: u111 :: u112 :: u113 :: u114 :: u115 :: u116 :: u117 :: u118 :: u119 :: u120 :: u121 :: u122 :: u123 :: u124 :: u125 :: u126 :: u127 :: u128 :: u129 :: u130 :: u131 :: u132 :: u133 :: u134 :: u135 :: u136 :: u137 :: u138 :: u139 :: u140 :: u141 :: u142 :: u143 :: u144 :: u145 :: u146 :: u147 :: u148 :: u149 :: u150 :: u151 :: u152 :: u153 :: u154 :: u155 :: u156 :: u157 :: u158 :: u159 :: u160 :: u161 :: u162 :: u163 :: u164 :: u165 :: u166 :: u167 :: u168 :: u169 :: u170 :: u171 :: u172 :: u173 :: u174 :: u175 :: u176 :: u177 :: u178 :: u179 :: u180 :: u181 :: u182 :: u183 :: u184 :: u185 :: u186 :: u187 :: u188 :: u189 :: u190 :: u191 :: u192 :: u193 :: u194 :: u195 :: u196 :: u197 :: u198 :: u199 :: u200 :: u201 :: u202 :: u203 :: u204 :: Value.slice (some ⟨sg, k, none⟩) (z - k) c5 :: Value.int .i64 ((z - k : Nat) : Int) :: v207 :: v208 :: v209 :: v210 :: v211 :: v212 :: v213 :: v214 :: v215 :: v216 :: v217 :: v218 :: v219 :: v220 :: v221 :: v222 :: u223 :: u224 :: u225 :: u226 :: u227 :: []), []⟩ w')) :
    Code.wp Try.prog (Code.loop ((loopsOf (Try.f29.body.getD .skip)).getD 3 .skip)) Q0 ⟨List.toArray (u0 :: u1 :: u2 :: u3 :: u4 :: Value.slice (some ⟨w0.heap.size + 2, 0, none⟩) n n :: Value.slice (some ⟨sg, 0, none⟩) z scap :: u7 :: Value.slice (some ⟨w0.heap.size + 3, 0, none⟩) n n :: u9 :: u10 :: u11 :: u12 :: u13 :: u14 :: Value.int .i64 k :: u16 :: u17 :: u18 :: u19 :: u20 :: u21 :: u22 :: u23 :: u24 :: u25 :: u26 :: u27 :: u28 :: u29 :: u30 :: u31 :: u32 :: u33 :: u34 :: u35 :: u36 :: u37 :: u38 :: u39 :: u40 :: u41 :: u42 :: u43 :: u44 :: u45 :: u46 :: u47 :: u48 :: u49 :: u50 :: u51 :: u52 :: u53 :: u54 :: u55 :: u56 :: u57 :: u58 :: u59 :: u60 :: u61 :: u62 :: u63 :: u64 :: u65 :: u66 :: u67 :: u68 :: u69 :: u70 :: u71 :: u72 :: u73 :: u74 :: u75 :: u76 :: u77 :: u78 :: u79 :: u80 :: u81 :: u82 :: u83 :: u84 :: u85 :: u86 :: u87 :: u88 :: u89 :: u90 :: u91 :: u92 :: u93 :: u94 :: u95 :: u96 :: u97 :: u98 :: u99 :: u100 :: u101 :: u102 :: u103 :: u104 :: u105 :: u106 :: u107 :: u108 :: u109 :: u110 :: u111 :: u112 :: u113 :: u114 :: u115 :: u116 :: u117 :: u118 :: u119 :: u120 :: u121 :: u122 :: u123 :: u124 :: u125 :: u126 :: u127 :: u128 :: u129 :: u130 :: u131 :: u132 :: u133 :: u134 :: u135 :: u136 :: u137 :: u138 :: u139 :: u140 :: u141 :: u142 :: u143 :: u144 :: u145 :: u146 :: u147 :: u148 :: u149 :: u150 :: u151 :: u152 :: u153 :: u154 :: u155 :: u156 :: u157 :: u158 :: u159 :: u160 :: u161 :: u162 :: u163 :: u164 :: u165 :: u166 :: u167 :: u168 :: u169 :: u170 :: u171 :: u172 :: u173 :: u174 :: u175 :: u176 :: u177 :: u178 :: u179 :: u180 :: u181 :: u182 :: u183 :: u184 :: u185 :: u186 :: u187 :: u188 :: u189 :: u190 :: u191 :: u192 :: u193 :: u194 :: u195 :: u196 :: u197 :: u198 :: u199 :: u200 :: u201 :: u202 :: u203 :: u204 :: Value.slice (some ⟨sg, k, none⟩) (z - k) c5 :: Value.int .i64 ((z - k : Nat) : Int) :: Value.int .i64 0 :: u208 :: u209 :: u210 :: u211 :: u212 :: u213 :: u214 :: u215 :: u216 :: u217 :: u218 :: u219 :: u220 :: u221 :: u222 :: u223 :: u224 :: u225 :: u226 :: u227 :: []), []⟩ w := by
  conv => arg 2; arg 1; whnf
  go_loopg [207] (z - k) (fun gm X wr => ∃ (j : Nat) (held' res' : Nat → Bool), X = .int .i64 j ∧ j ≤ z - k ∧ gm = z - k - j ∧ TM w0 wr n found low held' res' (some ⟨sg, 0, none⟩) z scap S pa m pcap pv pi ∧ Hid (Gone S z k j held res held' res'))
  case atStart => exact ⟨0, held, res, rfl, Nat.zero_le _, rfl, hTM, ⟨fun a h1 h2 => absurd h2 (by omega), fun x _ => ⟨rfl, rfl⟩⟩⟩
  case round =>
    clear hTM
    obtain ⟨j, held', res', rfl, hj, hg, hTM, hgone⟩ := hrel
    by_cases hlt : (j : Int) < ((z - k : Nat) : Int)
    · have hj' : k + j < z := by omega
      have c1 := hTM.s.cell hj'
      have hx := hSn.out (k + j) hj'
      have hgone2 : Hid (Gone S z k (j + 1) held res _ _) := hgone.out.step
      obtain ⟨x, hxe⟩ : ∃ x, Hid (S (k + j) = x) := ⟨_, rfl⟩
      rw [hxe.out] at c1 hx hgone2
      have c2 := hTM.h.cell hx
      have c3 := hTM.h.frozen x
      have c4 := hTM.r.cell hx
      have c5 := hTM.r.frozen x
      have ix : (x : Int) < n := by omega
      have hTM2 := (hTM.setH x false).setR x (decide (1 < z - k))
      have iw : IntKind.i64.wrap ((z : Int) - k) = ((z - k : Nat) : Int) := by rw [IntKind.wrap_i64]; omega
      have idc : Hid (decide (1 < z - k) = decide ((1 : Int) < ((z - k : Nat) : Int))) := decide_eq_decide.mpr (by omega)
      rw [idc.out] at hTM2 hgone2
      have izk : (0 : Int) ≤ (z : Int) - k := by omega
      clear hTM hgone
      go_wp2
      go_roundg (z - k - (j + 1))
      case measure => omega
      case rel => exact ⟨j + 1, _, _, by go_num, by omega, rfl, hTM2, hgone2⟩
    · have hjz : j = z - k := by omega
      subst hjz
      go_wp2
      exact hexit.out _ _ _ _ _ _ _ _ _ _ _ _ _ _ _ _ _  held' res' _ hTM hgone.out
end Go.Proofs.Qxb6601852a

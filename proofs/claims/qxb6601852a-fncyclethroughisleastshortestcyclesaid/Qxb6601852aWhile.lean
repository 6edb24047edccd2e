/-
  onCycle: the inner loop of Tarjan's search, walked.
-/
import Derived.Test.Qxb6601852aPops
import Derived.StillTailTactics
namespace Go.Proofs.Qxb6601852a
open Go.ChangeShapes Go.WideShapes Go.ChangeAt Go.RowKit

namespace Gr
/-- What is left to do. -/
def mu (L : Nat → Nat) (n : Nat) (found : Nat → Nat) (m : Nat) (pv pi : Nat → Nat) : Nat := sumTo n (fun v => if found v = 0 then L v + 1 else 0) + sumTo m (fun j => L (pv j) - pi j + 1)
theorem mu_top {L : Nat → Nat} {n : Nat} {found : Nat → Nat} {m : Nat} {pv pi : Nat → Nat} (hm : 1 ≤ m) : mu L n found m pv pi = mu L n found (m - 1) pv pi + (L (pv (m - 1)) - pi (m - 1) + 1) := by
  unfold mu
  obtain ⟨k, rfl⟩ : ∃ k, m = k + 1 := ⟨m - 1, by omega⟩
  rw [sumTo]
  simp only [Nat.add_sub_cancel]
  omega
theorem mu_congr {L : Nat → Nat} {n : Nat} {found : Nat → Nat} {m : Nat} {pv pi pv' pi' : Nat → Nat} (h : ∀ j, j < m → pv j = pv' j ∧ pi j = pi' j) : mu L n found m pv pi = mu L n found m pv' pi' := by
  unfold mu
  rw [sumTo_congr (n := m) (f := fun j => L (pv j) - pi j + 1) (g := fun j => L (pv' j) - pi' j + 1) (fun j hj => by simp only [(h j hj).1, (h j hj).2])]
theorem mu_pop {L : Nat → Nat} {n : Nat} {found : Nat → Nat} {m : Nat} {pv pi : Nat → Nat} (hm : 1 ≤ m) : mu L n found (m - 1) pv pi < mu L n found m pv pi := by
  rw [mu_top hm]; omega
theorem mu_edge {L : Nat → Nat} {n : Nat} {found : Nat → Nat} {m i : Nat} {pv pi : Nat → Nat} (hm : 1 ≤ m) (hi : pi (m - 1) = i) (hL : i < L (pv (m - 1))) : mu L n found m pv (upd pi (m - 1) (i + 1)) < mu L n found m pv pi := by
  rw [mu_top hm, mu_top hm, upd_same]
  rw [mu_congr (pv' := pv) (pi' := pi) (fun j hj => ⟨rfl, upd_other _ _ (by omega)⟩)]
  omega
theorem mu_found {L : Nat → Nat} {n K w : Nat} {found : Nat → Nat} {m : Nat} {pv pi : Nat → Nat} (hw : w < n) (h0 : found w = 0) : mu L n (upd found w (K + 1)) m pv pi + (L w + 1) = mu L n found m pv pi := by
  unfold mu
  have := sumTo_change (n := n) (f := fun v => if upd found w (K + 1) v = 0 then L v + 1 else 0) (g := fun v => if found v = 0 then L v + 1 else 0) hw (fun k _ hk => by simp only [upd_other _ _ hk])
  simp only [upd_same, h0] at this
  simp at this
  omega
theorem mu_push {L : Nat → Nat} {n K w : Nat} {found : Nat → Nat} {m i : Nat} {pv pi : Nat → Nat} (hm : 1 ≤ m) (hi : pi (m - 1) = i) (hL : i < L (pv (m - 1))) (hw : w < n) (h0 : found w = 0) :
    mu L n (upd found w (K + 1)) (m + 1) (upd pv m w) (upd (upd pi (m - 1) (i + 1)) m 0) < mu L n found m pv pi := by
  rw [mu_top (m := m + 1) (by omega), Nat.add_sub_cancel, upd_same, upd_same]
  rw [mu_congr (m := m) (pv' := pv) (pi' := upd pi (m - 1) (i + 1)) (fun j hj => ⟨upd_other _ _ (by omega), upd_other _ _ (by omega)⟩)]
  have h1 := mu_edge (L := L) (n := n) (found := upd found w (K + 1)) hm hi hL
  have h2 := mu_found (L := L) (K := K) (m := m) (pv := pv) (pi := pi) hw h0
  omega
end Gr


set_option maxRecDepth 100000 in
set_option maxHeartbeats 8000000 in
theorem while_wp {w0 w : World} {B n : Nat} {A : Nat → Option Addr} {L C : Nat → Nat} {e : Nat → Nat → Nat} (hG : Gm w0 (some ⟨B, 0, none⟩) B n A L C e) (hW : Hid (Gr.WF L e n)) (hn : n ≤ 4096) (hL : Hid (∀ r, r < n → L r ≤ 131072))
    (sa : Option Addr) (z scap K : Nat) (pa : Option Addr) (m pcap : Nat) (found low : Nat → Nat) (held res : Nat → Bool) (S pv pi : Nat → Nat) (Q0 : Exit → Act → World → Prop) (u1 u2 u9 u11 u12 u13 u14 u15 u16 u17 u18 u19 u20 u21 u22 u23 u24 u25 u26 u27 u28 u29 u30 u31 u32 u33 u34 u35 u36 u37 u38 u39 u40 u41 u42 u43 u44 u45 u46 u47 u48 u49 u50 u51 u52 u53 u54 u55 u56 u57 u58 u59 u60 u61 u62 u63 u64 u65 u66 u67 u68 u69 u70 u71 u72 u73 u74 u75 u76 u77 u78 u79 u80 u81 u82 u83 u84 u85 u86 u87 u88 u89 u90 u91 u92 u93 u94 u95 u96 u97 u98 u99 u100 u101 u102 u103 u104 u105 u106 u107 u108 u109 u110 u111 u112 u113 u114 u115 u116 u117 u118 u119 u120 u121 u122 u123 u124 u125 u126 u127 u128 u129 u130 u131 u132 u133 u134 u135 u136 u137 u138 u139 u140 u141 u142 u143 u144 u145 u146 u147 u148 u149 u150 u151 u152 u153 u154 u155 u156 u157 u158 u159 u160 u161 u162 u163 u164 u165 u166 u167 u168 u169 u170 u171 u172 u173 u174 u175 u176 u177 u178 u179 u180 u181 u182 u183 u184 u185 u186 u187 u188 u189 u190 u191 u192 u193 u194 u195 u196 u197 u198 u199 u200 u201 u202 u203 u204 u205 u206 u207 u208 u209 u210 u211 u212 u213 u214 u215 u216 u217 u218 u219 u220 u221 u222 u223 u224 u225 u226 u227 : Value)
    (hTM : TM w0 w n found low held res sa z scap S pa m pcap pv pi) (hT : Hid (Gr.T L e n found low held res S z K pv pi m))
    (hexit : Hid (∀ (v11 v12 v13 v14 v15 v17 v60 v61 v62 v63 v64 v65 v66 v67 v68 v69 v70 v71 v72 v73 v74 v75 v76 v77 v78 v79 v80 v81 v82 v83 v84 v85 v86 v87 v88 v89 v90 v91 v92 v93 v94 v95 v96 v97 v98 v99 v100 v101 v102 v103 v104 v105 v106 v107 v108 v109 v110 v111 v112 v113 v114 v115 v116 v117 v118 v119 v120 v121 v122 v123 v124 v125 v126 v127 v128 v129 v130 v131 v132 v133 v134 v135 v136 v137 v138 v139 v140 v141 v142 v143 v144 v145 v146 v147 v148 v149 v150 v151 v152 v153 v154 v155 v156 v157 v158 v159 v160 v161 v162 v163 v164 v165 v166 v167 v168 v169 v170 v171 v172 v173 v174 v175 v176 v177 v178 v179 v180 v181 v182 v183 v184 v185 v186 v187 v188 v189 v190 v191 v192 v193 v194 v195 v196 v197 v198 v199 v200 v201 v202 v203 v204 v205 v206 v207 v208 v209 v210 v211 v212 v213 v214 v215 v216 v217 v218 v219 v220 v221 v222 v223 v224 v225 : Value) (sa' : Option Addr) (scap' K' : Nat) (pa' : Option Addr) (pcap' : Nat) (found' low' : Nat → Nat) (held' res' : Nat → Bool) (S' pv' pi' : Nat → Nat) (w' : World), TM w0 w' n found' low' held' res' sa' 0 scap' S' none 0 0 pv' pi' → Gr.T L e n found' low' held' res' S' 0 K' pv' pi' 0 → (∀ v, v < n → 1 ≤ found v → 1 ≤ found' v) → Q0 (.exit 2) ⟨List.toArray (Value.slice (some ⟨B, 0, none⟩) n n :: u1 :: u2 :: Value.slice (some ⟨w0.heap.size, 0, none⟩) n n :: Value.slice (some ⟨w0.heap.size + 1, 0, none⟩) n n :: Value.slice (some ⟨w0.heap.size + 2, 0, none⟩) n n :: Value.slice sa' 0 scap' :: Value.int .i64 K' :: Value.slice (some ⟨w0.heap.size + 3, 0, none⟩) n n :: u9 :: Value.slice pa' 0 pcap' :: v11 :: v12 :: v13 :: v14 :: v15 :: u16 :: v17 :: u18 :: u19 :: u20 :: u21 :: u22 :: u23 :: u24 :: u25 :: u26 :: u27 :: u28 :: u29 :: u30 :: u31 :: u32 :: u33 :: u34 :: u35 :: u36 :: u37 :: u38 :: u39 :: u40 :: u41 :: u42 :: u43 :: u44 :: u45 :: u46 :: u47 :: u48 :: u49 :: u50 :: u51 :: u52 :: u53 :: u54 :: u55 :: u56 :: u57 :: u58 :: u59 :: v60 :: v61 :: v62 :: v63 :: v64 :: v65 :: v66 :: v67 :: v68 :: v69 :: v70 :: v71 :: v72 :: v73 :: v74 :: v75 :: v76 :: v77 :: v78 :: v79 :: v80 :: v81 :: v82 :: v83 :: v84 :: v85 :: v86 :: v87 :: v88 :: v89 :: v90 :: v91 :: v92 :: v93 :: v94 :: v95 :: v96 :: v97 :: v98 :: v99 :: v100 :: v101 :: v102 :: v103 :: v104 :: v105 :: v106 :: v107 :: v108 :: v109 :: v110 :: v111 :: v112 :: v113 :: v114 :: v115 :: v116 :: v117 :: v118 :: v119 :: v120 :: v121 :: v122 :: v123 :: v124 :: v125 :: v126 :: v127 :: v128 :: v129 :: v130 :: v131 :: v132 :: v133 :: v134 :: v135 :: v136 :: v137 :: v138 :: v139 :: v140 :: v141 :: v142 :: v143 :: v144 :: v145 :: v146 :: v147 :: v148 :: v149 :: v150 :: v151 :: v152 :: v153 :: v154 :: v155 :: v156 :: v157 :: v158 :: v159 :: v160 :: v161 :: v162 :: v163 :: v164 :: v165 :: v166 :: v167 :: v168 :: v169 :: v170 :: v171 :: v172 :: v173 :: v174 :: v175 :: v176 :: v177 :: v178 :: v179 :: v180 :: v181 :: v182 :: v183 :: v184 :: v185 :: v186 :: v187 :: v188 :: v189 :: v190 :: v191 :: v192 :: v193 :: v194 :: v195 :: v196 :: v197 :: v198 :: v199 :: v200 :: v201 :: v202 :: v203 :: v204 :: v205 :: v206 :: v207 :: v208 :: v209 :: v210 :: v211 :: v212 :: v213 :: v214 :: v215 :: v216 :: v217 :: v218 :: v219 :: v220 :: v221 :: v222 :: v223 :: v224 :: v225 :: u226 :: u227 :: []), []⟩ w')) :
    Code.wp Try.prog (Code.loop ((loopsOf (Try.f29.body.getD .skip)).getD 1 .skip)) Q0 ⟨List.toArray (Value.slice (some ⟨B, 0, none⟩) n n :: u1 :: u2 :: Value.slice (some ⟨w0.heap.size, 0, none⟩) n n :: Value.slice (some ⟨w0.heap.size + 1, 0, none⟩) n n :: Value.slice (some ⟨w0.heap.size + 2, 0, none⟩) n n :: Value.slice sa z scap :: Value.int .i64 K :: Value.slice (some ⟨w0.heap.size + 3, 0, none⟩) n n :: u9 :: Value.slice pa m pcap :: u11 :: u12 :: u13 :: u14 :: u15 :: u16 :: u17 :: u18 :: u19 :: u20 :: u21 :: u22 :: u23 :: u24 :: u25 :: u26 :: u27 :: u28 :: u29 :: u30 :: u31 :: u32 :: u33 :: u34 :: u35 :: u36 :: u37 :: u38 :: u39 :: u40 :: u41 :: u42 :: u43 :: u44 :: u45 :: u46 :: u47 :: u48 :: u49 :: u50 :: u51 :: u52 :: u53 :: u54 :: u55 :: u56 :: u57 :: u58 :: u59 :: u60 :: u61 :: u62 :: u63 :: u64 :: u65 :: u66 :: u67 :: u68 :: u69 :: u70 :: u71 :: u72 :: u73 :: u74 :: u75 :: u76 :: u77 :: u78 :: u79 :: u80 :: u81 :: u82 :: u83 :: u84 :: u85 :: u86 :: u87 :: u88 :: u89 :: u90 :: u91 :: u92 :: u93 :: u94 :: u95 :: u96 :: u97 :: u98 :: u99 :: u100 :: u101 :: u102 :: u103 :: u104 :: u105 :: u106 :: u107 :: u108 :: u109 :: u110 :: u111 :: u112 :: u113 :: u114 :: u115 :: u116 :: u117 :: u118 :: u119 :: u120 :: u121 :: u122 :: u123 :: u124 :: u125 :: u126 :: u127 :: u128 :: u129 :: u130 :: u131 :: u132 :: u133 :: u134 :: u135 :: u136 :: u137 :: u138 :: u139 :: u140 :: u141 :: u142 :: u143 :: u144 :: u145 :: u146 :: u147 :: u148 :: u149 :: u150 :: u151 :: u152 :: u153 :: u154 :: u155 :: u156 :: u157 :: u158 :: u159 :: u160 :: u161 :: u162 :: u163 :: u164 :: u165 :: u166 :: u167 :: u168 :: u169 :: u170 :: u171 :: u172 :: u173 :: u174 :: u175 :: u176 :: u177 :: u178 :: u179 :: u180 :: u181 :: u182 :: u183 :: u184 :: u185 :: u186 :: u187 :: u188 :: u189 :: u190 :: u191 :: u192 :: u193 :: u194 :: u195 :: u196 :: u197 :: u198 :: u199 :: u200 :: u201 :: u202 :: u203 :: u204 :: u205 :: u206 :: u207 :: u208 :: u209 :: u210 :: u211 :: u212 :: u213 :: u214 :: u215 :: u216 :: u217 :: u218 :: u219 :: u220 :: u221 :: u222 :: u223 :: u224 :: u225 :: u226 :: u227 :: []), []⟩ w := by
  conv => arg 2; arg 1; whnf
  go_loopg [6, 7, 10] (Gr.mu L n found m pv pi) (fun gm X Y Z wr => ∃ (sa : Option Addr) (z scap K : Nat) (pa : Option Addr) (m pcap : Nat) (found' low : Nat → Nat) (held res : Nat → Bool) (S pv pi : Nat → Nat), X = .slice sa z scap ∧ Y = .int .i64 K ∧ Z = .slice pa m pcap ∧ TM w0 wr n found' low held res sa z scap S pa m pcap pv pi ∧ Hid (Gr.T L e n found' low held res S z K pv pi m) ∧ Hid (∀ v, v < n → 1 ≤ found v → 1 ≤ found' v) ∧ Hid (gm = Gr.mu L n found' m pv pi))
  case atStart => exact ⟨sa, z, scap, K, pa, m, pcap, found, low, held, res, S, pv, pi, rfl, rfl, rfl, hTM, hT, fun v _ h => h, rfl⟩
  case round =>
    clear hTM hT
    obtain ⟨sa, z, scap, K, pa, m, pcap, found', low, held, res, S, pv, pi, rfl, rfl, rfl, hTM, hT, hfd, hgm⟩ := hrel
    have hKn := hT.out.Kn
    have hmK := hT.out.mK
    have hzK := hT.out.zK
    by_cases hm : (m : Int) > 0
    · have hm' : 1 ≤ m := by omega
      obtain ⟨pg, rfl, hpg1, hpg2⟩ := hTM.p.form hm'
      have cv := hTM.p.cellv (j := m - 1) (by omega)
      have ci := hTM.p.celli (j := m - 1) (by omega)
      have hvn := (hT.out.pvf (j := m - 1) (by omega)).1
      have i0 : (0 : Int) ≤ (m : Int) - 1 := by omega
      have i1 : (m : Int) - 1 < m := by omega
      have i2 : IntKind.i64.wrap ((m : Int) - 1) = (m : Int) - 1 := by rw [IntKind.wrap_i64]; omega
      obtain ⟨v, hv⟩ : ∃ v, Hid (pv (m - 1) = v) := ⟨_, rfl⟩
      obtain ⟨i, hi⟩ : ∃ i, Hid (pi (m - 1) = i) := ⟨_, rfl⟩
      rw [hv.out] at cv hvn
      rw [hi.out] at ci
      have hLv := hL.out v hvn
      have hiL : i ≤ L v := by have := (hT.out.pn (m - 1) (by omega)).2; rwa [hv.out, hi.out] at this
      have iv : ((v : Nat) : Int) < n := by omega
      have hG1 := hG.later hTM.bel
      obtain ⟨-, -, hc0⟩ := hG1.row v hvn
      by_cases hlt : (i : Int) < L v
      · have hlt' : i < L v := by omega
        go_upto_region 17 with fail
        go_quiet (fail)
        have hTM1 := hTM.drewN nq
        obtain ⟨b, hc1, hc2⟩ := hG1.at hvn hlt'
        have hc1 : (wr.drewN nq).cell? ⟨B, v, none⟩ = some (.slice (some ⟨b, 0, none⟩) (L v) (C v)) := hc1
        have hc2 : (wr.drewN nq).cell? ⟨b, i, none⟩ = some (.int .i64 (e v i)) := hc2
        have cv : (wr.drewN nq).cell? ⟨pg, (m - 1) * 2, none⟩ = some (.int .i64 v) := cv
        have ci : (wr.drewN nq).cell? ⟨pg, (m - 1) * 2 + 1, none⟩ = some (.int .i64 i) := ci
        clear hTM hc0 hG1
        generalize wr.drewN nq = w1 at hTM1 hc1 hc2 cv ci ⊢
        go_upto_region 18 with fail
        go_quiet (fail)
        have hTM2 := hTM1.drewN nq
        have ci : (w1.drewN nq).cell? ⟨pg, (m - 1) * 2 + 1, none⟩ = some (.int .i64 i) := ci
        clear hTM1 hc1 hc2 cv
        generalize w1.drewN nq = w2 at hTM2 ci ⊢
        have cf := hTM2.p.frozen ((m - 1) * 2 + 1)
        have hTM3 := hTM2.setI (m - 1) (i + 1)
        rw [show (((i + 1 : Nat)) : Int) = (i : Int) + 1 by omega] at hTM3
        obtain ⟨x, hx⟩ : ∃ x, Hid (e v i = x) := ⟨_, rfl⟩
        have hxn : x < n := by rw [← hx.out]; exact hW.out.lt v hvn i hlt'
        have hxe : Hid (Gr.Ed L e (pv (m - 1)) x) := ⟨i, by rw [hv.out]; exact hlt', by rw [hv.out]; exact hx.out⟩
        rw [hx.out]
        have ix : ((x : Nat) : Int) < n := by omega
        go_upto_region 20 with fail
        clear cf ci hTM2
        generalize w2.setCell ⟨pg, (m - 1) * 2 + 1, none⟩ (.int .i64 ((i : Int) + 1)) = w3 at hTM3 ⊢
        have c1 := hTM3.f.cell hxn
        have c2 := hTM3.f.frozen x
        have c3 := hTM3.l.cell hxn
        have c4 := hTM3.l.frozen x
        have c5 := hTM3.h.cell hxn
        have c6 := hTM3.h.frozen x
        by_cases hf0 : found' x = 0
        · have hf0' : ((found' x : Int) == 0) = true := by simpa using hf0
          have hTM4 := ((hTM3.setF x (K + 1)).setL x (K + 1)).setH x true
          rw [show (((K + 1 : Nat)) : Int) = (K : Int) + 1 by omega] at hTM4
          have hT2 : Hid (Gr.T L e n (Gr.upd found' x (K + 1)) (Gr.upd low x (K + 1)) (Gr.upd held x true) res (Gr.upd S z x) (z + 1) (K + 1) (Gr.upd pv m x) (Gr.upd (Gr.upd pi (m - 1) (i + 1)) m 0) (m + 1)) :=
            hT.out.push hxn hf0 (fun h => absurd h (by omega)) (fun j hj => by
              by_cases e0 : j = m - 1
              · subst e0
                right
                rw [Gr.upd_same, hi.out, hv.out]
                exact ⟨rfl, hlt', hx.out⟩
              · exact Or.inl (Gr.upd_other _ _ e0)) (fun _ => hxe.out)
          have hmu := Gr.mu_push (K := K) (L := L) (pv := pv) (pi := pi) (found := found') hm' hi.out (by rw [hv.out]; exact hlt') hxn hf0
          have hfd2 : Hid (∀ v, v < n → 1 ≤ found v → 1 ≤ Gr.upd found' x (K + 1) v) := fun y hy hy1 => by
            by_cases e0 : y = x
            · rw [e0, Gr.upd_same]; omega
            · rw [Gr.upd_other _ _ e0]; exact hfd.out y hy hy1
          clear hfd hT hTM3
          go_upto_region 23 with fail
          clear c1 c2 c3 c4 c5 c6 hf0 hf0'
          generalize ((w3.setCell ⟨w0.heap.size, x, none⟩ (.int .i64 ((K : Int) + 1))).setCell ⟨w0.heap.size + 1, x, none⟩ (.int .i64 ((K : Int) + 1))).setCell ⟨w0.heap.size + 2, x, none⟩ (.bool true) = w4 at hTM4 ⊢
          have hlow4 := hTM4.low4
          go_wp2_with (at_builtin; refine push_law (by rfl) _ _ (by rfl) hTM4.s x (by rfl) _ rfl (by rfl) (by omega) (by omega) ?_)
          intro g1 cap1 w5 hp
          have hTM5 := hTM4.pushS hp
          clear hTM4 hp hlow4
          have hlow4 := hTM5.low4
          go_wp2_with (at_builtin; refine path_law (by rfl) _ _ (by rfl) hTM5.p x (by rfl) _ rfl (by rfl) (by omega) (by omega) ?_)
          intro g2 cap2 w6 hp
          have hTM6 := hTM5.pushP hp
          clear hTM5 hp hlow4
          go_wp2
          go_roundg (Gr.mu L n (Gr.upd found' x (K + 1)) (m + 1) (Gr.upd pv m x) (Gr.upd (Gr.upd pi (m - 1) (i + 1)) m 0))
          case measure => rw [hgm.out]; exact hmu
          case rel => exact ⟨_, z + 1, cap1, K + 1, _, m + 1, cap2, _, _, _, _, _, _, _, rfl, by go_num, rfl, hTM6, hT2, hfd2, rfl⟩
        · have hf1 : ((found' x : Int) == 0) = false := by simpa using hf0
          have hf2 : 1 ≤ found' x := by omega
          have hmu := Gr.mu_edge (L := L) (n := n) (pv := pv) (pi := pi) (found := found') hm' hi.out (by rw [hv.out]; exact hlt')
          by_cases hh : held x = true
          · rw [hh] at c5
            have cv : w3.cell? ⟨pg, (m - 1) * 2, none⟩ = some (.int .i64 v) := by rw [hTM3.p.cellv (j := m - 1) (by omega), hv.out]
            have c7 := hTM3.l.cell hvn
            have c8 := hTM3.l.frozen v
            clear c2 c3 c4 c6
            by_cases hmin : found' x < low v
            · have hT2 : Hid (Gr.T L e n found' (Gr.upd low v (found' x)) held res S z K pv (Gr.upd pi (m - 1) (i + 1)) m) :=
                hT.out.edge hm' hi.out (by rw [hv.out]; exact hlt') (by rw [hv.out]; exact hx.out) hf2 (fun y hy => Gr.upd_other _ _ (by rw [← hv.out]; exact hy)) (by rw [hv.out, Gr.upd_same]; omega) (fun _ => by rw [hv.out, Gr.upd_same]; exact Nat.le_refl _) (Or.inr ⟨hh, hxn, by rw [hv.out, Gr.upd_same]⟩)
              go_upto_region 26 with fail
              go_still_tail 18, (by kernel_rfl)
              change wpList _ _ _ _ _ w3.drew
              have c7 : w3.drew.cell? ⟨w0.heap.size + 1, v, none⟩ = some (.int .i64 (low v)) := c7
              have c8 : w3.drew.frozen? ⟨w0.heap.size + 1, v, none⟩ = false := c8
              have hTM4 := hTM3.drew
              clear c1 c5 cv hTM3
              generalize w3.drew = w4 at c7 c8 hTM4 ⊢
              have hTM5 := hTM4.setL v (found' x)
              clear hTM4
              go_wp2
              go_roundg (Gr.mu L n found' m pv (Gr.upd pi (m - 1) (i + 1)))
              case measure => rw [hgm.out]; exact hmu
              case rel => exact ⟨sa, z, scap, K, _, m, pcap, _, _, _, _, _, _, _, rfl, rfl, rfl, hTM5, hT2, hfd, rfl⟩
            · have hT2 : Hid (Gr.T L e n found' (Gr.upd low v (low v)) held res S z K pv (Gr.upd pi (m - 1) (i + 1)) m) :=
                hT.out.edge hm' hi.out (by rw [hv.out]; exact hlt') (by rw [hv.out]; exact hx.out) hf2 (fun y hy => Gr.upd_other _ _ (by rw [← hv.out]; exact hy)) (by rw [hv.out, Gr.upd_same]; exact Nat.le_refl _) (fun _ => by rw [hv.out, Gr.upd_same]; omega) (Or.inl (by rw [hv.out, Gr.upd_same]))
              go_upto_region 26 with fail
              go_still_tail 18, (by kernel_rfl)
              change wpList _ _ _ _ _ w3.drew
              have c7 : w3.drew.cell? ⟨w0.heap.size + 1, v, none⟩ = some (.int .i64 (low v)) := c7
              have c8 : w3.drew.frozen? ⟨w0.heap.size + 1, v, none⟩ = false := c8
              have hTM4 := hTM3.drew
              clear c1 c5 cv hTM3
              generalize w3.drew = w4 at c7 c8 hTM4 ⊢
              have hTM5 := hTM4.setL v (low v)
              clear hTM4
              go_wp2
              go_roundg (Gr.mu L n found' m pv (Gr.upd pi (m - 1) (i + 1)))
              case measure => rw [hgm.out]; exact hmu
              case rel => exact ⟨sa, z, scap, K, _, m, pcap, _, _, _, _, _, _, _, rfl, rfl, rfl, hTM5, hT2, hfd, rfl⟩
          · have hh' : held x = false := by simpa using hh
            rw [hh'] at c5
            have hT2 : Hid (Gr.T L e n found' low held res S z K pv (Gr.upd pi (m - 1) (i + 1)) m) :=
              hT.out.edge hm' hi.out (by rw [hv.out]; exact hlt') (by rw [hv.out]; exact hx.out) hf2 (fun _ _ => rfl) (Nat.le_refl _) (fun h => absurd h hh) (Or.inl rfl)
            clear c2 c3 c4 c6 hT hh
            go_wp2
            go_roundg (Gr.mu L n found' m pv (Gr.upd pi (m - 1) (i + 1)))
            case measure => rw [hgm.out]; exact hmu
            case rel => exact ⟨sa, z, scap, K, _, m, pcap, _, _, _, _, _, _, _, rfl, rfl, rfl, hTM3, hT2, hfd, rfl⟩
      · have hdec : decide ((i : Int) < L v) = false := decide_eq_false hlt
        have hpc : (m : Int) ≤ pcap := by have := hTM.p.room hm'; omega
        go_upto_region 17 with fail
        go_quiet (fail)
        have hTM1 := hTM.drewN nq
        have cv : (wr.drewN nq).cell? ⟨pg, (m - 1) * 2, none⟩ = some (.int .i64 v) := cv
        clear hTM hc0 hG1 ci
        generalize wr.drewN nq = w1 at hTM1 cv ⊢
        go_upto_if 163 with fail
        clear cv
        go_cut [14, 62] from 163 to 182 (fun _ _ w' => ∃ low2 : Nat → Nat, TM w0 w' n found' low2 held res sa z scap S (some ⟨pg, 0, none⟩) (m - 1) pcap pv pi ∧ Hid ((2 ≤ m → (∀ y, y ≠ pv (m - 2) → low2 y = low y) ∧ low2 (pv (m - 2)) = min (low (pv (m - 2))) (low v)) ∧ (m = 1 → low2 = low)))
        case first =>
          by_cases h2 : 2 ≤ m
          · have cu := hTM1.p.cellv (j := m - 1 - 1) (by omega)
            have hun := (hT.out.pvf (j := m - 1 - 1) (by omega)).1
            obtain ⟨y, hy⟩ : ∃ y, Hid (pv (m - 1 - 1) = y) := ⟨_, rfl⟩
            rw [hy.out] at cu hun
            have j0 : (0 : Int) < ((m - 1 : Nat) : Int) := by omega
            have j1 : (0 : Int) ≤ ((m - 1 : Nat) : Int) - 1 := by omega
            have j2 : ((m - 1 : Nat) : Int) - 1 < ((m - 1 : Nat) : Int) := by omega
            have iy : (y : Int) < n := by omega
            have d1 := hTM1.l.cell hun
            have d2 := hTM1.l.cell hvn
            have d3 := hTM1.l.frozen y
            by_cases hmin : low v < low y
            · go_upto_region 31 with fail
              go_still_tail 12, (by kernel_rfl)
              change wpList _ _ _ _ _ w1.drew
              have d1 : w1.drew.cell? ⟨w0.heap.size + 1, y, none⟩ = some (.int .i64 (low y)) := d1
              have d3 : w1.drew.frozen? ⟨w0.heap.size + 1, y, none⟩ = false := d3
              have hTM2 := (hTM1.drew.takeP (k := m - 1) (by omega)).setL y (low v)
              clear d2 cu hTM1
              generalize w1.drew = w2 at d1 d3 hTM2 ⊢
              go_wp2
              go_meet
              case rel =>
                refine ⟨_, hTM2, fun _ => ⟨fun x hx => Gr.upd_other _ _ ?_, ?_⟩, fun h => absurd h (by omega)⟩
                · rw [← hy.out, show m - 1 - 1 = m - 2 by omega]; exact hx
                · rw [show m - 2 = m - 1 - 1 by omega, hy.out, Gr.upd_same]; omega
            · go_upto_region 31 with fail
              go_still_tail 12, (by kernel_rfl)
              change wpList _ _ _ _ _ w1.drew
              have d1 : w1.drew.cell? ⟨w0.heap.size + 1, y, none⟩ = some (.int .i64 (low y)) := d1
              have d3 : w1.drew.frozen? ⟨w0.heap.size + 1, y, none⟩ = false := d3
              have hTM2 := (hTM1.drew.takeP (k := m - 1) (by omega)).setL y (low y)
              clear d2 cu hTM1
              generalize w1.drew = w2 at d1 d3 hTM2 ⊢
              go_wp2
              go_meet
              case rel =>
                refine ⟨_, hTM2, fun _ => ⟨fun x hx => Gr.upd_other _ _ ?_, ?_⟩, fun h => absurd h (by omega)⟩
                · rw [← hy.out, show m - 1 - 1 = m - 2 by omega]; exact hx
                · rw [show m - 2 = m - 1 - 1 by omega, hy.out, Gr.upd_same]; omega
          · obtain rfl : m = 1 := by omega
            have hTM2 := hTM1.takeP (k := 1 - 1) (by omega)
            go_wp2_with fail
            go_meet
            case rel => exact ⟨low, hTM2, fun h => absurd h (by omega), fun _ => rfl⟩
        case rest =>
          obtain ⟨low2, hTM2, hq⟩ := hcut
          clear hTM1
          have hlv : Hid (low2 v = low v) := by
            by_cases h2 : 2 ≤ m
            · exact (hq.out.1 h2).1 v (fun e0 => by
                have := hT.out.ps (m - 2) (m - 1) (by omega) (by omega)
                rw [hv.out, ← e0] at this
                omega)
            · show low2 v = low v
              rw [hq.out.2 (by omega)]
          have d1 := hTM2.l.cell hvn
          have d2 := hTM2.f.cell hvn
          rw [hlv.out] at d1
          have hdone : Hid (L (pv (m - 1)) ≤ pi (m - 1)) := by show _ ≤ _; rw [hv.out, hi.out]; omega
          by_cases hlow : low v = found' v
          · have hlow' : ((low v : Int) == found' v) = true := by simp; omega
            have hl2 : Hid (low2 = low) := by
              by_cases h2 : 2 ≤ m
              · funext y
                by_cases e0 : y = pv (m - 2)
                · obtain ⟨a, ha, hqa⟩ := (hT.out.pn (m - 2) (by omega)).1
                  have h3 := (hT.out.lowS a ha).1
                  have h4 := hT.out.ps (m - 2) (m - 1) (by omega) (by omega)
                  rw [hqa] at h3
                  rw [hv.out] at h4
                  rw [e0, (hq.out.1 h2).2]
                  omega
                · exact (hq.out.1 h2).1 y e0
              · exact hq.out.2 (by omega)
            rw [hl2.out] at hTM2
            have hlowp : Hid (low (pv (m - 1)) = found' (pv (m - 1))) := by show _ = _; rw [hv.out]; exact hlow
            obtain ⟨a0, ha0, hS0⟩ := (hT.out.pn (m - 1) (by omega)).1
            rw [hv.out] at hS0
            have ha0' : Hid (∃ a, a < z ∧ S a = v) := ⟨a0, ha0, hS0⟩
            have hz1 : 1 ≤ z := by omega
            have hmu := Gr.mu_pop (L := L) (n := n) (found := found') (pv := pv) (pi := pi) hm'
            obtain ⟨sg, rfl, hsg1, hsg2⟩ := hTM2.s.form hz1
            have hsc : (z : Int) ≤ scap := by have := hTM2.s.fits hz1; omega
            clear hq hlv hl2 hlow ha0 hS0
            go_upto_region 32 with fail
            go_quiet (fail)
            have hTM3 := hTM2.drewN nq
            clear d1 d2 hTM2
            generalize wc.drewN nq = w3 at hTM3 ⊢
            go_upto_region 33 with fail
            go_wp2_with fail
            refine l3_wp hTM3.s (by omega) ha0' _ _ _ _ _ _ _ _ _ _ _ _ _ _ _ _ _ _ _ _ _ _ _ _ _ _ _ _ _ _ _ _ _ _ _ _ _ _ _ _ _ _ _ _ _ _ _ _ _ _ _ _ _ _ _ _ _ _ _ _ _ _ _ _ _ _ _ _ _ _ _ _ _ _ _ _ _ _ _ _ _ _ _ _ _ _ _ _ _ _ _ _ _ _ _ _ _ _ _ _ _ _ _ _ _ _ _ _ _ _ _ _ _ _ _ _ _ _ _ _ _ _ _ _ _ _ _ _ _ _ _ _ _ _ _ _ _ _ _ _ _ _ _ _ _ _ _ _ _ _ _ _ _ _ _ _ _ _ _ _ _ _ _ _ _ _ _ _ _ _ _ _ _ _ _ _ _ _ _ _ _ _ _ _ _ _ _ _ _ _ _ _ _ _ _ _ _ _ _ _ _ _ _ _ _ _ _ _ _ _ _ _ _ _ _ _ _ _ _ _ _ _ _ _ _ _ ?_
            intro v195 v196 v197 v198 v199 v200 v201 v202 k hk hSk
            simp only [Exit.inBlock, Exit.then]
            have hSn : Hid (∀ a, a < z → S a < n) := fun a ha => (hT.out.sn a ha).1
            have ik0 : (0 : Int) ≤ k := by omega
            have ik1 : (k : Int) ≤ z := by omega
            have ik2 : (k : Int) < scap := by omega
            have ik3 : ¬ (scap = k) := by omega
            have hSk' : Hid (S k = pv (m - 1)) := by show _ = _; rw [hv.out]; exact hSk
            clear hSk
            go_wp2_with fail
            refine l4_wp hTM3 (by omega) hk hSn _ _ _ _ _ _ _ _ _ _ _ _ _ _ _ _ _ _ _ _ _ _ _ _ _ _ _ _ _ _ _ _ _ _ _ _ _ _ _ _ _ _ _ _ _ _ _ _ _ _ _ _ _ _ _ _ _ _ _ _ _ _ _ _ _ _ _ _ _ _ _ _ _ _ _ _ _ _ _ _ _ _ _ _ _ _ _ _ _ _ _ _ _ _ _ _ _ _ _ _ _ _ _ _ _ _ _ _ _ _ _ _ _ _ _ _ _ _ _ _ _ _ _ _ _ _ _ _ _ _ _ _ _ _ _ _ _ _ _ _ _ _ _ _ _ _ _ _ _ _ _ _ _ _ _ _ _ _ _ _ _ _ _ _ _ _ _ _ _ _ _ _ _ _ _ _ _ _ _ _ _ _ _ _ _ _ _ _ _ _ _ _ _ _ _ _ _ _ _ _ _ _ _ _ _ _ _ _ _ _ _ _ _ _ _ _ _ _ _ _ _ _ ?_
            intro v17 v207 v208 v209 v210 v211 v212 v213 v214 v215 v216 v217 v218 v219 v220 v221 v222 held' res' w4 hTM4 hgone
            simp only [Exit.inBlock, Exit.then]
            have hT2 : Hid (Gr.T L e n found' low held' res' S k K pv pi (m - 1)) := hT.out.pop hW.out hm' hdone.out hlowp.out hk hSk'.out (fun a h1 h2 => hgone.1 a h1 (by omega)) (fun x hx => hgone.2 x (fun a h1 h2 => hx a h1 (by omega)))
            have hTM5 := hTM4.takeS (k := k) (by omega)
            clear hT hTM3 hTM4 hgone
            go_wp2
            go_roundg (Gr.mu L n found' (m - 1) pv pi)
            case measure => rw [hgm.out]; exact hmu
            case rel => exact ⟨_, k, scap, K, _, m - 1, pcap, _, _, _, _, _, _, _, rfl, rfl, rfl, hTM5, hT2, hfd, rfl⟩
          · have hlow' : ((low v : Int) == found' v) = false := by simp; omega
            have hm2 : 2 ≤ m := by
              by_cases e0 : m = 1
              · subst e0
                have := hT.out.lowRoot rfl
                rw [show (0 : Nat) = 1 - 1 from rfl, hv.out] at this
                exact absurd this hlow
              · omega
            have hT2 : Hid (Gr.T L e n found' low2 held res S z K pv pi (m - 1)) := hT.out.finish hm2 hdone.out (by rw [hv.out]; exact hlow) (hq.out.1 hm2).1 (by rw [hv.out]; exact (hq.out.1 hm2).2)
            have hmu := Gr.mu_pop (L := L) (n := n) (found := found') (pv := pv) (pi := pi) hm'
            clear hT hlow hq
            go_upto_region 32 with fail
            go_quiet (fail)
            have hTM3 := hTM2.drewN nq
            clear d1 d2 hTM2
            go_wp2
            go_roundg (Gr.mu L n found' (m - 1) pv pi)
            case measure => rw [hgm.out]; exact hmu
            case rel => exact ⟨sa, z, scap, K, _, m - 1, pcap, _, _, _, _, _, _, _, rfl, rfl, rfl, hTM3, hT2, hfd, rfl⟩
    · obtain rfl : m = 0 := by omega
      obtain rfl : z = 0 := by
        by_cases e0 : z = 0
        · exact e0
        · exact absurd (hT.out.root (by omega)).1 (by omega)
      go_wp2
      exact hexit.out _ _ _ _ _ _ _ _ _ _ _ _ _ _ _ _ _ _ _ _ _ _ _ _ _ _ _ _ _ _ _ _ _ _ _ _ _ _ _ _ _ _ _ _ _ _ _ _ _ _ _ _ _ _ _ _ _ _ _ _ _ _ _ _ _ _ _ _ _ _ _ _ _ _ _ _ _ _ _ _ _ _ _ _ _ _ _ _ _ _ _ _ _ _ _ _ _ _ _ _ _ _ _ _ _ _ _ _ _ _ _ _ _ _ _ _ _ _ _ _ _ _ _ _ _ _ _ _ _ _ _ _ _ _ _ _ _ _ _ _ _ _ _ _ _ _ _ _ _ _ _ _ _ _ _ _ _ _ _ _ _ _ _ _ _ _ _ _ _ _ _ _ _ _ _ _ _ _ _ _ _ _ _ _ _ hTM.noP hT.out hfd.out
end Go.Proofs.Qxb6601852a

/-
  onCycle: Tarjan's search walked.
-/
import Derived.Test.Qxb6601852aWhile
import Derived.Test.Qxb6601852aLib
namespace Go.Proofs.Qxb6601852a
open Go.ChangeShapes Go.WideShapes Go.ChangeAt Go.RowKit

theorem TM.start (w : World) (n : Nat) (S pv pi : Nat → Nat) :
    TM w ((((w.alloc (.cells (madeCells #[.int .i64 0] n) 3)).alloc (.cells (madeCells #[.int .i64 0] n) 3)).alloc (.cells (madeCells #[.bool false] n) 4)).alloc (.cells (madeCells #[.bool false] n) 4)) n (fun _ => 0) (fun _ => 0) (fun _ => false) (fun _ => false) none 0 0 S none 0 0 pv pi := by
  have h1 := World.rowIs_made w (.int .i64 0) n 3
  have h2 := World.rowIs_made (w.alloc (.cells (madeCells #[.int .i64 0] n) 3)) (.int .i64 0) n 3
  have h3 := World.rowIs_made ((w.alloc (.cells (madeCells #[.int .i64 0] n) 3)).alloc (.cells (madeCells #[.int .i64 0] n) 3)) (.bool false) n 4
  have h4 := World.rowIs_made (((w.alloc (.cells (madeCells #[.int .i64 0] n) 3)).alloc (.cells (madeCells #[.int .i64 0] n) 3)).alloc (.cells (madeCells #[.bool false] n) 4)) (.bool false) n 4
  rw [show (w.alloc (.cells (madeCells #[.int .i64 0] n) 3)).heap.size = w.heap.size + 1 by simp] at h2
  rw [show ((w.alloc (.cells (madeCells #[.int .i64 0] n) 3)).alloc (.cells (madeCells #[.int .i64 0] n) 3)).heap.size = w.heap.size + 2 by simp] at h3
  rw [show (((w.alloc (.cells (madeCells #[.int .i64 0] n) 3)).alloc (.cells (madeCells #[.int .i64 0] n) 3)).alloc (.cells (madeCells #[.bool false] n) 4)).heap.size = w.heap.size + 3 by simp] at h4
  exact ⟨((h1.alloc _).alloc _).alloc _, (h2.alloc _).alloc _, h3.alloc _, h4, Vec.nil _ _ _, Pth.nil _ _ _ _, fun k hk => by simp [ob] at hk, ((((Below.refl _ _).alloc (Nat.le_refl _) _).alloc (by simp) _).alloc (by simp; omega) _).alloc (by simp; omega) _⟩

set_option maxRecDepth 100000 in
set_option maxHeartbeats 8000000 in
theorem on_any {w : World} {B n : Nat} {A : Nat → Option Addr} {L C : Nat → Nat} {e : Nat → Nat → Nat} (hG : Gm w (some ⟨B, 0, none⟩) B n A L C e) (hW : Hid (Gr.WF L e n)) (hn : n ≤ 4096) (hL : Hid (∀ r, r < n → L r ≤ 131072)) :
    Calls Try.prog 29 #[.slice (some ⟨B, 0, none⟩) n n] w (OnPost L e n w) := by
  have hmk := run_make_row' (P := Try.prog) 28 3 (.int .i64 0) 8 Try.underlying28 Try.info3 rfl .i64 .i64 n (by omega) (by omega)
  have hmk2 := run_make_row' (P := Try.prog) 25 4 (.bool false) 1 Try.underlying25 Try.info4 rfl .i64 .i64 n (by omega) (by omega)
  have hTM0 := TM.start w n (fun _ => 0) (fun _ => 0) (fun _ => 0)
  have hT0 : Hid (Gr.T L e n (fun _ => 0) (fun _ => 0) (fun _ => false) (fun _ => false) (fun _ => 0) 0 0 (fun _ => 0) (fun _ => 0) 0) := Gr.T.start n _ _ _ _ _
  go_enter Try.func29, Try.ntmps29
  go_wp2_with fail
  clear hmk hmk2
  generalize ((((w.alloc (.cells (madeCells #[.int .i64 0] n) 3)).alloc (.cells (madeCells #[.int .i64 0] n) 3)).alloc (.cells (madeCells #[.bool false] n) 4)).alloc (.cells (madeCells #[.bool false] n) 4)) = w1 at hTM0 ⊢
  rw [show w.heap.size + 1 + 1 + 1 = w.heap.size + 3 from rfl, show w.heap.size + 1 + 1 = w.heap.size + 2 from rfl]
  go_loopg [6, 7, 32] n (fun gm X Y Z wr => ∃ (rt : Nat) (sa : Option Addr) (scap K : Nat) (found low : Nat → Nat) (held res : Nat → Bool) (S pv pi : Nat → Nat), rt ≤ n ∧ X = .slice sa 0 scap ∧ Y = .int .i64 K ∧ Z = .int .i64 rt ∧ gm = n - rt ∧ TM w wr n found low held res sa 0 scap S none 0 0 pv pi ∧ Hid (Gr.T L e n found low held res S 0 K pv pi 0) ∧ Hid (∀ v, v < rt → 1 ≤ found v))
  case atStart => exact ⟨0, none, 0, 0, _, _, _, _, _, _, _, Nat.zero_le _, rfl, rfl, rfl, rfl, hTM0, hT0, fun v hv => absurd hv (by omega)⟩
  case round =>
    clear hTM0 hT0
    obtain ⟨rt, sa, scap, K, found, low, held, res, S, pv, pi, hrt, rfl, rfl, rfl, hgm, hTM, hT, hfd⟩ := hrel
    have hKn := hT.out.Kn
    by_cases hlt : (rt : Int) < n
    · have hrt' : rt < n := by omega
      have c1 := hTM.f.cell hrt'
      by_cases hfr : (found rt : Int) > 0
      · have hfd2 : Hid (∀ v, v < rt + 1 → 1 ≤ found v) := fun v hv => by
          by_cases e0 : v = rt
          · subst e0; omega
          · exact hfd.out v (by omega)
        clear hfd
        go_wp2
        go_roundg (n - (rt + 1))
        case measure => omega
        case rel => exact ⟨rt + 1, sa, scap, K, found, low, held, res, S, pv, pi, by omega, rfl, rfl, by go_num, rfl, hTM, hT, hfd2⟩
      · have hf0 : Hid (found rt = 0) := by show _ = _; omega
        have c2 := hTM.f.frozen rt
        have c3 := hTM.l.cell hrt'
        have c4 := hTM.l.frozen rt
        have c5 := hTM.h.cell hrt'
        have c6 := hTM.h.frozen rt
        have hTM2 := ((hTM.setF rt (K + 1)).setL rt (K + 1)).setH rt true
        have hlow4 := hTM.low4
        rw [show (((K + 1 : Nat)) : Int) = (K : Int) + 1 by omega] at hTM2
        have hT2 : Hid (Gr.T L e n (Gr.upd found rt (K + 1)) (Gr.upd low rt (K + 1)) (Gr.upd held rt true) res (Gr.upd S 0 rt) (0 + 1) (K + 1) (Gr.upd pv 0 rt) (Gr.upd pi 0 0) (0 + 1)) :=
          hT.out.push hrt' hf0.out (fun _ => rfl) (fun j hj => absurd hj (by omega)) (fun h => absurd h (by omega))
        go_upto_region 13 with fail
        clear c1 c2 c3 c4 c5 c6 hT hTM
        generalize ((wr.setCell ⟨w.heap.size, rt, none⟩ (.int .i64 ((K : Int) + 1))).setCell ⟨w.heap.size + 1, rt, none⟩ (.int .i64 ((K : Int) + 1))).setCell ⟨w.heap.size + 2, rt, none⟩ (.bool true) = w2 at hTM2 ⊢
        have hlow4 := hTM2.low4
        go_wp2_with (at_builtin; refine push_law (by rfl) _ _ (by rfl) hTM2.s rt (by rfl) _ rfl (by rfl) (by omega) (by omega) ?_)
        intro g1 cap1 w3 hp
        have hTM3 := (hTM2.pushS hp).oneP rt
        have hTM4 : TM w (w3.alloc (.cells #[.int .i64 rt, .int .i64 0] 42)) n (Gr.upd found rt (K + 1)) (Gr.upd low rt (K + 1)) (Gr.upd held rt true) res (some ⟨g1, 0, none⟩) (0 + 1) cap1 (Gr.upd S 0 rt) (some ⟨w3.heap.size, 0, none⟩) (0 + 1) 1 (Gr.upd pv 0 rt) (Gr.upd pi 0 0) :=
          ⟨hTM3.f, hTM3.l, hTM3.h, hTM3.r, hTM3.s, hTM3.p.congr (fun j hj => by rw [show j = 0 by omega, Gr.upd_same]) (fun j hj => by rw [show j = 0 by omega, Gr.upd_same]), hTM3.ap, hTM3.bel⟩
        clear hTM2 hTM3 hp hlow4
        have hfd2 : Hid (∀ v, v < rt + 1 → v < n → 1 ≤ Gr.upd found rt (K + 1) v) := fun v hv _ => by
          by_cases e0 : v = rt
          · subst e0; rw [Gr.upd_same]; omega
          · rw [Gr.upd_other _ _ e0]; exact hfd.out v (by omega)
        clear hfd
        go_wp2_with fail
        refine while_wp hG hW hn hL _ _ _ (K + 1) _ _ _ _ _ _ _ _ _ _ _ _ _ _ _ _ _ _ _ _ _ _ _ _ _ _ _ _ _ _ _ _ _ _ _ _ _ _ _ _ _ _ _ _ _ _ _ _ _ _ _ _ _ _ _ _ _ _ _ _ _ _ _ _ _ _ _ _ _ _ _ _ _ _ _ _ _ _ _ _ _ _ _ _ _ _ _ _ _ _ _ _ _ _ _ _ _ _ _ _ _ _ _ _ _ _ _ _ _ _ _ _ _ _ _ _ _ _ _ _ _ _ _ _ _ _ _ _ _ _ _ _ _ _ _ _ _ _ _ _ _ _ _ _ _ _ _ _ _ _ _ _ _ _ _ _ _ _ _ _ _ _ _ _ _ _ _ _ _ _ _ _ _ _ _ _ _ _ _ _ _ _ _ _ _ _ _ _ _ _ _ _ _ _ _ _ _ _ _ _ _ _ _ _ _ _ _ _ _ _ _ _ _ _ _ _ _ _ _ _ _ _ _ _ _ _ _ _ _ _ _ hTM4 hT2 ?_
        intro v11 v12 v13 v14 v15 v17 v60 v61 v62 v63 v64 v65 v66 v67 v68 v69 v70 v71 v72 v73 v74 v75 v76 v77 v78 v79 v80 v81 v82 v83 v84 v85 v86 v87 v88 v89 v90 v91 v92 v93 v94 v95 v96 v97 v98 v99 v100 v101 v102 v103 v104 v105 v106 v107 v108 v109 v110 v111 v112 v113 v114 v115 v116 v117 v118 v119 v120 v121 v122 v123 v124 v125 v126 v127 v128 v129 v130 v131 v132 v133 v134 v135 v136 v137 v138 v139 v140 v141 v142 v143 v144 v145 v146 v147 v148 v149 v150 v151 v152 v153 v154 v155 v156 v157 v158 v159 v160 v161 v162 v163 v164 v165 v166 v167 v168 v169 v170 v171 v172 v173 v174 v175 v176 v177 v178 v179 v180 v181 v182 v183 v184 v185 v186 v187 v188 v189 v190 v191 v192 v193 v194 v195 v196 v197 v198 v199 v200 v201 v202 v203 v204 v205 v206 v207 v208 v209 v210 v211 v212 v213 v214 v215 v216 v217 v218 v219 v220 v221 v222 v223 v224 v225 sa' scap' K' pa' pcap' found' low' held' res' S' pv' pi' w' hTM5 hT5 hmono
        simp only [Exit.inBlock, Exit.then]
        have hT6 : Hid (Gr.T L e n found' low' held' res' S' 0 K' pv' pi' 0) := hT5
        have hfd3 : Hid (∀ v, v < rt + 1 → 1 ≤ found' v) := fun v hv => hmono v (by omega) (hfd2.out v hv (by omega))
        clear hT5 hmono hfd2 hT2 hTM4
        go_wp2
        go_roundg (n - (rt + 1))
        case measure => omega
        case rel => exact ⟨rt + 1, sa', scap', K', found', low', held', res', S', pv', pi', by omega, rfl, rfl, by go_num, rfl, hTM5, hT6, hfd3⟩
    · go_wp2
      go_ret
      obtain rfl : rt = n := by omega
      exact ⟨res, rfl, hTM.r, hT.out.final hfd.out, hTM.bel⟩
end Go.Proofs.Qxb6601852a

import Derived.Test.Qxb6601687aStepF
import Derived.Deep.CutBlock
import Derived.Deep.LoopGhost
import Derived.Deep.QuietTactic
import Derived.BigQuiet
namespace Go.Proofs.Qxb6601687a
open Go.ChangeShapes Go.WideShapes Go.ChangeAt Go.RowKit

set_option maxRecDepth 100000 in
set_option maxHeartbeats 8000000 in
/-- The forward pass. -/
theorem fwd_wp (P : Lay) (vd vi : Value) (a0 a1 b0 b1 n m c st : Int) (F0 B : Int → Int) (w w0 : World) (Q0 : Exit → Act → World → Prop) (u5 u6 u7 u8 u9 u10 u11 u12 u13 u14 u21 u24 u25 u26 u27 u28 u29 u30 u31 u32 u33 u34 u35 u36 u37 u38 u39 u40 u41 u42 u43 u44 u45 u46 u47 u48 u49 u50 u51 u52 u53 u54 u55 u56 u57 u58 u59 u60 u61 u62 u63 u64 u65 u66 u67 u68 u69 u70 u71 u72 u73 u74 u75 u76 u77 u78 u79 u80 u81 u82 u83 u84 u85 u86 u87 u88 u89 u90 u91 u92 u93 u94 u95 u96 u97 u98 u99 u100 u101 u102 u103 u104 u105 u106 u107 u108 u109 u110 u111 u112 u113 u114 u115 u116 u117 u118 u119 u120 u121 u122 u123 u124 u125 u126 u127 u128 u129 u130 u131 u132 u133 u134 u135 u136 u137 u138 u139 u140 u141 u142 u143 u144 u145 u146 u147 u148 u149 u150 u151 u152 u153 u154 u155 u156 u157 u158 u159 u160 u161 u162 u163 u164 u165 u166 u167 u168 u169 u170 u171 u172 u173 u174 u175 u176 u177 u178 u179 u180 u181 u182 u183 u184 u185 u186 u187 u188 u189 u190 u191 u192 u193 u194 u195 u196 u197 u198 u199 u200 u201 u202 u203 u204 u205 u206 u207 u208 u209 u210 u211 u212 u213 u214 u215 u216 u217 u218 u219 u220 u221 u222 u223 u224 u225 u226 u227 u228 u229 u230 u231 u232 u233 u234 u235 u236 u237 u238 u239 u240 u241 u242 u243 u244 u245 u246 u247 u248 u249 u250 u251 u252 u253 u254 u255 u256 u257 u258 u259 u260 u261 u262 u263 u264 u265 u266 u267 u268 u269 u270 u271 u272 u273 u274 u275 u276 u277 u278 u279 u280 u281 u282 u283 u284 u285 u286 u287 u288 u289 u290 u291 u292 u293 u294 u295 u296 u297 u298 u299 u300 u301 u302 u303 u304 u305 u306 u307 u308 u309 u310 u311 u312 u313 u314 u315 u316 u317 u318 u319 u320 u321 u322 u323 u324 u325 u326 u327 u328 u329 u330 u331 u332 u333 u334 u335 u336 u337 u338 u339 u340 u341 u342 u343 u344 u345 u346 u347 u348 u349 u350 u351 u352 u353 u354 u355 u356 u357 u358 u359 u360 u361 u362 u363 u364 u365 u366 u367 u368 u369 u370 u371 u372 u373 u374 u375 u376 u377 u378 u379 u380 u381 u382 u383 u384 u385 u386 u387 u388 u389 u390 u391 u392 u393 u394 u395 u396 u397 u398 u399 u400 u401 u402 u403 u404 u405 u406 u407 u408 u409 u410 u411 u412 u413 u414 u415 u416 u417 u418 u419 u420 u421 u422 u423 u424 u425 u426 u427 u428 u429 u430 u431 u432 u433 u434 u435 u436 : Value)
    (hN : Nums P a0 b0 n m) (hc0 : 0 ≤ c) (hc1 : c ≤ 1025) (hst : 8388608 ≤ st) (hst2 : st ≤ 9223372036854775807)
    (hM : MS P vd vi n m F0 B st w) (hF : FB n m F0) (hK : KeptBut [P.L, P.fb, P.gb] w0 w)
    (hexit : ∀ (v10 v11 v12 v13 v14 v23 v24 v25 v26 v27 v28 v29 v91 v92 v93 v94 v95 v96 v97 v98 v99 v100 v101 v102 v103 v104 v105 v106 v107 v108 v109 v110 v111 v112 v113 v114 v115 v116 v117 v118 v119 v120 v121 v122 v123 v124 v125 v126 v127 v128 v129 v130 v131 v132 v133 v134 v135 v136 v137 v138 v139 v140 v141 v142 v143 v144 v145 v146 v147 v148 v149 v150 v151 v152 v153 v154 v155 v156 v157 v158 v159 v160 v161 v162 v163 v164 v165 v166 v167 v168 v169 v170 v171 v172 v173 v174 v175 v176 v177 v178 v179 v180 v181 v182 v183 v184 v185 v186 v187 v188 v189 v190 v191 v192 v193 v194 v195 v196 v197 v198 v199 v200 v201 v202 v203 v204 v205 v206 v207 v208 v209 v210 v211 v212 v213 v214 v215 v216 v217 v218 v219 v220 v221 v222 v223 v224 v225 v226 v227 v228 v229 v230 v231 v232 v233 v234 v235 v236 v237 v238 v239 v240 v241 v242 v243 v244 v245 v246 v247 v248 v249 v250 v251 v252 v253 v254 v255 v256 v257 v258 v259 v260 : Value) (st' : Int) (w' : World), (My.fwdP (eqf P a0 b0) n m c B F0).1 = none → MS P vd vi n m (My.fwdP (eqf P a0 b0) n m c B F0).2 B st' w' → FB n m (My.fwdP (eqf P a0 b0) n m c B F0).2 → KeptBut [P.L, P.fb, P.gb] w0 w' → st - 4194304 ≤ st' → st' ≤ st → Q0 (.exit 4) ⟨List.toArray (Value.pointer (some ⟨P.L, 0, none⟩) :: Value.int .i64 a0 :: Value.int .i64 a1 :: Value.int .i64 b0 :: Value.int .i64 b1 :: u5 :: u6 :: u7 :: u8 :: u9 :: v10 :: v11 :: v12 :: v13 :: v14 :: Value.int .i64 n :: Value.int .i64 m :: Value.int .i64 (n - m) :: Value.int .i64 (m + 1) :: Value.slice (some ⟨P.fb, 0, none⟩) (n + m + 3).toNat P.sz :: Value.slice (some ⟨P.gb, 0, none⟩) (n + m + 3).toNat P.sz :: u21 :: Value.int .i64 c :: v23 :: v24 :: v25 :: v26 :: v27 :: v28 :: v29 :: u30 :: u31 :: u32 :: u33 :: u34 :: u35 :: u36 :: u37 :: u38 :: u39 :: u40 :: u41 :: u42 :: u43 :: u44 :: u45 :: u46 :: u47 :: u48 :: u49 :: u50 :: u51 :: u52 :: u53 :: u54 :: u55 :: u56 :: u57 :: u58 :: u59 :: u60 :: u61 :: u62 :: u63 :: u64 :: u65 :: u66 :: u67 :: u68 :: u69 :: u70 :: u71 :: u72 :: u73 :: u74 :: u75 :: u76 :: u77 :: u78 :: u79 :: u80 :: u81 :: u82 :: u83 :: u84 :: u85 :: u86 :: u87 :: u88 :: u89 :: u90 :: v91 :: v92 :: v93 :: v94 :: v95 :: v96 :: v97 :: v98 :: v99 :: v100 :: v101 :: v102 :: v103 :: v104 :: v105 :: v106 :: v107 :: v108 :: v109 :: v110 :: v111 :: v112 :: v113 :: v114 :: v115 :: v116 :: v117 :: v118 :: v119 :: v120 :: v121 :: v122 :: v123 :: v124 :: v125 :: v126 :: v127 :: v128 :: v129 :: v130 :: v131 :: v132 :: v133 :: v134 :: v135 :: v136 :: v137 :: v138 :: v139 :: v140 :: v141 :: v142 :: v143 :: v144 :: v145 :: v146 :: v147 :: v148 :: v149 :: v150 :: v151 :: v152 :: v153 :: v154 :: v155 :: v156 :: v157 :: v158 :: v159 :: v160 :: v161 :: v162 :: v163 :: v164 :: v165 :: v166 :: v167 :: v168 :: v169 :: v170 :: v171 :: v172 :: v173 :: v174 :: v175 :: v176 :: v177 :: v178 :: v179 :: v180 :: v181 :: v182 :: v183 :: v184 :: v185 :: v186 :: v187 :: v188 :: v189 :: v190 :: v191 :: v192 :: v193 :: v194 :: v195 :: v196 :: v197 :: v198 :: v199 :: v200 :: v201 :: v202 :: v203 :: v204 :: v205 :: v206 :: v207 :: v208 :: v209 :: v210 :: v211 :: v212 :: v213 :: v214 :: v215 :: v216 :: v217 :: v218 :: v219 :: v220 :: v221 :: v222 :: v223 :: v224 :: v225 :: v226 :: v227 :: v228 :: v229 :: v230 :: v231 :: v232 :: v233 :: v234 :: v235 :: v236 :: v237 :: v238 :: v239 :: v240 :: v241 :: v242 :: v243 :: v244 :: v245 :: v246 :: v247 :: v248 :: v249 :: v250 :: v251 :: v252 :: v253 :: v254 :: v255 :: v256 :: v257 :: v258 :: v259 :: v260 :: u261 :: u262 :: u263 :: u264 :: u265 :: u266 :: u267 :: u268 :: u269 :: u270 :: u271 :: u272 :: u273 :: u274 :: u275 :: u276 :: u277 :: u278 :: u279 :: u280 :: u281 :: u282 :: u283 :: u284 :: u285 :: u286 :: u287 :: u288 :: u289 :: u290 :: u291 :: u292 :: u293 :: u294 :: u295 :: u296 :: u297 :: u298 :: u299 :: u300 :: u301 :: u302 :: u303 :: u304 :: u305 :: u306 :: u307 :: u308 :: u309 :: u310 :: u311 :: u312 :: u313 :: u314 :: u315 :: u316 :: u317 :: u318 :: u319 :: u320 :: u321 :: u322 :: u323 :: u324 :: u325 :: u326 :: u327 :: u328 :: u329 :: u330 :: u331 :: u332 :: u333 :: u334 :: u335 :: u336 :: u337 :: u338 :: u339 :: u340 :: u341 :: u342 :: u343 :: u344 :: u345 :: u346 :: u347 :: u348 :: u349 :: u350 :: u351 :: u352 :: u353 :: u354 :: u355 :: u356 :: u357 :: u358 :: u359 :: u360 :: u361 :: u362 :: u363 :: u364 :: u365 :: u366 :: u367 :: u368 :: u369 :: u370 :: u371 :: u372 :: u373 :: u374 :: u375 :: u376 :: u377 :: u378 :: u379 :: u380 :: u381 :: u382 :: u383 :: u384 :: u385 :: u386 :: u387 :: u388 :: u389 :: u390 :: u391 :: u392 :: u393 :: u394 :: u395 :: u396 :: u397 :: u398 :: u399 :: u400 :: u401 :: u402 :: u403 :: u404 :: u405 :: u406 :: u407 :: u408 :: u409 :: u410 :: u411 :: u412 :: u413 :: u414 :: u415 :: u416 :: u417 :: u418 :: u419 :: u420 :: u421 :: u422 :: u423 :: u424 :: u425 :: u426 :: u427 :: u428 :: u429 :: u430 :: u431 :: u432 :: u433 :: u434 :: u435 :: u436 :: []), []⟩ w')
    (hret : ∀ (a : Act) (r : Int × Int × Int × Int) (F' : Int → Int) (st' : Int) (w' : World), (My.fwdP (eqf P a0 b0) n m c B F0).1 = some r → a.defers = [] → a.tmps.getD 10 undef = .int .i64 r.1 → a.tmps.getD 11 undef = .int .i64 r.2.1 → a.tmps.getD 12 undef = .int .i64 r.2.2.1 → a.tmps.getD 13 undef = .int .i64 r.2.2.2 → a.tmps.getD 14 undef = .bool true → MS P vd vi n m F' B st' w' → KeptBut [P.L, P.fb, P.gb] w0 w' → st - 4194304 ≤ st' → st' ≤ st → Q0 .ret a w') :
    Code.wp Try.prog (Code.loop ((loopsOf (Try.f33.body.getD .skip)).getD 2 .skip)) Q0 ⟨List.toArray (Value.pointer (some ⟨P.L, 0, none⟩) :: Value.int .i64 a0 :: Value.int .i64 a1 :: Value.int .i64 b0 :: Value.int .i64 b1 :: u5 :: u6 :: u7 :: u8 :: u9 :: u10 :: u11 :: u12 :: u13 :: u14 :: Value.int .i64 n :: Value.int .i64 m :: Value.int .i64 (n - m) :: Value.int .i64 (m + 1) :: Value.slice (some ⟨P.fb, 0, none⟩) (n + m + 3).toNat P.sz :: Value.slice (some ⟨P.gb, 0, none⟩) (n + m + 3).toNat P.sz :: u21 :: Value.int .i64 c :: Value.int .i64 (My.fHi n c) :: u24 :: u25 :: u26 :: u27 :: u28 :: u29 :: u30 :: u31 :: u32 :: u33 :: u34 :: u35 :: u36 :: u37 :: u38 :: u39 :: u40 :: u41 :: u42 :: u43 :: u44 :: u45 :: u46 :: u47 :: u48 :: u49 :: u50 :: u51 :: u52 :: u53 :: u54 :: u55 :: u56 :: u57 :: u58 :: u59 :: u60 :: u61 :: u62 :: u63 :: u64 :: u65 :: u66 :: u67 :: u68 :: u69 :: u70 :: u71 :: u72 :: u73 :: u74 :: u75 :: u76 :: u77 :: u78 :: u79 :: u80 :: u81 :: u82 :: u83 :: u84 :: u85 :: u86 :: u87 :: u88 :: u89 :: u90 :: u91 :: u92 :: u93 :: u94 :: u95 :: u96 :: u97 :: u98 :: u99 :: u100 :: u101 :: u102 :: u103 :: u104 :: u105 :: u106 :: u107 :: u108 :: u109 :: u110 :: u111 :: u112 :: u113 :: u114 :: u115 :: u116 :: u117 :: u118 :: u119 :: u120 :: u121 :: u122 :: u123 :: u124 :: u125 :: u126 :: u127 :: u128 :: u129 :: u130 :: u131 :: u132 :: u133 :: u134 :: u135 :: u136 :: u137 :: u138 :: u139 :: u140 :: u141 :: u142 :: u143 :: u144 :: u145 :: u146 :: u147 :: u148 :: u149 :: u150 :: u151 :: u152 :: u153 :: u154 :: u155 :: u156 :: u157 :: u158 :: u159 :: u160 :: u161 :: u162 :: u163 :: u164 :: u165 :: u166 :: u167 :: u168 :: u169 :: u170 :: u171 :: u172 :: u173 :: u174 :: u175 :: u176 :: u177 :: u178 :: u179 :: u180 :: u181 :: u182 :: u183 :: u184 :: u185 :: u186 :: u187 :: u188 :: u189 :: u190 :: u191 :: u192 :: u193 :: u194 :: u195 :: u196 :: u197 :: u198 :: u199 :: u200 :: u201 :: u202 :: u203 :: u204 :: u205 :: u206 :: u207 :: u208 :: u209 :: u210 :: u211 :: u212 :: u213 :: u214 :: u215 :: u216 :: u217 :: u218 :: u219 :: u220 :: u221 :: u222 :: u223 :: u224 :: u225 :: u226 :: u227 :: u228 :: u229 :: u230 :: u231 :: u232 :: u233 :: u234 :: u235 :: u236 :: u237 :: u238 :: u239 :: u240 :: u241 :: u242 :: u243 :: u244 :: u245 :: u246 :: u247 :: u248 :: u249 :: u250 :: u251 :: u252 :: u253 :: u254 :: u255 :: u256 :: u257 :: u258 :: u259 :: u260 :: u261 :: u262 :: u263 :: u264 :: u265 :: u266 :: u267 :: u268 :: u269 :: u270 :: u271 :: u272 :: u273 :: u274 :: u275 :: u276 :: u277 :: u278 :: u279 :: u280 :: u281 :: u282 :: u283 :: u284 :: u285 :: u286 :: u287 :: u288 :: u289 :: u290 :: u291 :: u292 :: u293 :: u294 :: u295 :: u296 :: u297 :: u298 :: u299 :: u300 :: u301 :: u302 :: u303 :: u304 :: u305 :: u306 :: u307 :: u308 :: u309 :: u310 :: u311 :: u312 :: u313 :: u314 :: u315 :: u316 :: u317 :: u318 :: u319 :: u320 :: u321 :: u322 :: u323 :: u324 :: u325 :: u326 :: u327 :: u328 :: u329 :: u330 :: u331 :: u332 :: u333 :: u334 :: u335 :: u336 :: u337 :: u338 :: u339 :: u340 :: u341 :: u342 :: u343 :: u344 :: u345 :: u346 :: u347 :: u348 :: u349 :: u350 :: u351 :: u352 :: u353 :: u354 :: u355 :: u356 :: u357 :: u358 :: u359 :: u360 :: u361 :: u362 :: u363 :: u364 :: u365 :: u366 :: u367 :: u368 :: u369 :: u370 :: u371 :: u372 :: u373 :: u374 :: u375 :: u376 :: u377 :: u378 :: u379 :: u380 :: u381 :: u382 :: u383 :: u384 :: u385 :: u386 :: u387 :: u388 :: u389 :: u390 :: u391 :: u392 :: u393 :: u394 :: u395 :: u396 :: u397 :: u398 :: u399 :: u400 :: u401 :: u402 :: u403 :: u404 :: u405 :: u406 :: u407 :: u408 :: u409 :: u410 :: u411 :: u412 :: u413 :: u414 :: u415 :: u416 :: u417 :: u418 :: u419 :: u420 :: u421 :: u422 :: u423 :: u424 :: u425 :: u426 :: u427 :: u428 :: u429 :: u430 :: u431 :: u432 :: u433 :: u434 :: u435 :: u436 :: []), []⟩ w := by
  obtain ⟨n1, m1, n2, m2, ha, hb, hal, hbl, hla, hlb, hsz⟩ := id hN
  have lo1 : -c ≤ My.fLo m c := by unfold My.fLo; omega
  have lo2 : -m ≤ My.fLo m c := by unfold My.fLo; omega
  have lo3 : My.fLo m c ≤ 0 := by unfold My.fLo; omega
  have hi1 : My.fHi n c ≤ c := by unfold My.fHi; omega
  have hi2 : My.fHi n c ≤ n := by unfold My.fHi; omega
  have hi3 : 0 ≤ My.fHi n c := by unfold My.fHi; omega
  have HLO : Hid (My.fLo m c = max (-c) (-m)) := rfl
  have HR : Hid (My.fwdP (eqf P a0 b0) n m c B F0 = My.fwdL (eqf P a0 b0) n m c B (My.fLo m c) (My.fHi n c - My.fLo m c + 1).toNat (My.fHi n c) F0) := rfl
  generalize My.fLo m c = lo at *
  generalize My.fHi n c = hi at *
  generalize My.fwdP (eqf P a0 b0) n m c B F0 = res at *
  conv => arg 2; arg 1; whnf
  go_loopg [23] (hi - lo + 1).toNat (fun g KK wr => ∃ (k s : Int) (F : Int → Int), KK = .int .i64 k ∧ lo - 1 ≤ k ∧ k ≤ hi ∧ (g : Int) = k - lo + 1 ∧ MS P vd vi n m F B s wr ∧ FB n m F ∧ KeptBut [P.L, P.fb, P.gb] w0 wr ∧ st - (hi - k) * 1100 ≤ s ∧ s ≤ st ∧ Hid (My.fwdL (eqf P a0 b0) n m c B lo g k F = res))
  case atStart => exact ⟨hi, st, F0, rfl, by omega, by omega, by omega, hM, hF, hK, by omega, by omega, HR.out.symm⟩
  case round =>
    obtain ⟨k, s, F, rfl, hk1, hk2, hg, hM1, hF1, hK1, hs1, hs2, hR⟩ := hrel
    clear hM hK hF HR
    go_upto_region 14 with fail
    go_cut [97] from 91 to 96 (fun b w' => w' = wr ∧ b = .bool (decide (lo ≤ k)))
    case first =>
      rcases Int.lt_trichotomy c m with h4 | h4 | h4
      · have H : Hid (lo = -c) := by show _ = _; rw [HLO.out]; omega
        by_cases hlo : -c ≤ k
        · have HD : Hid (decide (lo ≤ k) = true) := decide_eq_true (by rw [H.out]; exact hlo)
          go_wp2_with fail
          go_meet
          case rel => exact ⟨rfl, by rw [HD.out]⟩
        · have HD : Hid (decide (lo ≤ k) = false) := decide_eq_false (by rw [H.out]; exact hlo)
          go_wp2_with fail
          go_meet
          case rel => exact ⟨rfl, by rw [HD.out]⟩
      · subst h4
        have H : Hid (lo = -c) := by show _ = _; rw [HLO.out]; omega
        by_cases hlo : -c ≤ k
        · have HD : Hid (decide (lo ≤ k) = true) := decide_eq_true (by rw [H.out]; exact hlo)
          go_wp2_with fail
          go_meet
          case rel => exact ⟨rfl, by rw [HD.out]⟩
        · have HD : Hid (decide (lo ≤ k) = false) := decide_eq_false (by rw [H.out]; exact hlo)
          go_wp2_with fail
          go_meet
          case rel => exact ⟨rfl, by rw [HD.out]⟩
      · have H : Hid (lo = -m) := by show _ = _; rw [HLO.out]; omega
        by_cases hlo : -m ≤ k
        · have HD : Hid (decide (lo ≤ k) = true) := decide_eq_true (by rw [H.out]; exact hlo)
          go_wp2_with fail
          go_meet
          case rel => exact ⟨rfl, by rw [HD.out]⟩
        · have HD : Hid (decide (lo ≤ k) = false) := decide_eq_false (by rw [H.out]; exact hlo)
          go_wp2_with fail
          go_meet
          case rel => exact ⟨rfl, by rw [HD.out]⟩
    case rest =>
      obtain ⟨rfl, rfl⟩ := hcut
      have HX := hide hexit
      have HT := hide hret
      clear hexit hret
      by_cases hlo : lo ≤ k
      rotate_left
      · have hE : Hid (res = (none, F)) := by
          show _ = _
          rw [← hR.out]
          cases gk with
          | zero => rw [My.fwdL]
          | succ g => rw [My.fwdL, if_pos (by omega)]
        rw [decide_eq_false hlo]
        clear hR HT hlo
        go_wp2
        exact HX.out _ _ _ _ _ _ _ _ _ _ _ _ _ _ _ _ _ _ _ _ _ _ _ _ _ _ _ _ _ _ _ _ _ _ _ _ _ _ _ _ _ _ _ _ _ _ _ _ _ _ _ _ _ _ _ _ _ _ _ _ _ _ _ _ _ _ _ _ _ _ _ _ _ _ _ _ _ _ _ _ _ _ _ _ _ _ _ _ _ _ _ _ _ _ _ _ _ _ _ _ _ _ _ _ _ _ _ _ _ _ _ _ _ _ _ _ _ _ _ _ _ _ _ _ _ _ _ _ _ _ _ _ _ _ _ _ _ _ _ _ _ _ _ _ _ _ _ _ _ _ _ _ _ _ _ _ _ _ _ _ _ _ _ _ _ _ _ _ _ _ _ _ _ _ _ _ _ _ _ _ _ _ _ _ (by rw [hE.out]) (by rw [hE.out]; exact hM1) (by rw [hE.out]; exact hF1) hK1 (by omega) (by omega)
      · obtain ⟨g, rfl⟩ : ∃ g, gk = g + 1 := ⟨gk - 1, by omega⟩
        rw [decide_eq_true hlo]
        go_upto_block 5 with fail
        refine stepF_wp P vd vi a0 a1 b0 b1 n m c k s F B _ w0 _ _ _ _ _ _ _ _ _ _ _ _ _ _ _ _ _ _ _ _ _ _ _ _ _ _ _ _ _ _ _ _ _ _ _ _ _ _ _ _ _ _ _ _ _ _ _ _ _ _ _ _ _ _ _ _ _ _ _ _ _ _ _ _ _ _ _ _ _ _ _ _ _ _ _ _ _ _ _ _ _ _ _ _ _ _ _ _ _ _ _ _ _ _ _ _ _ _ _ _ _ _ _ _ _ _ _ _ _ _ _ _ _ _ _ _ _ _ _ _ _ _ _ _ _ _ _ _ _ _ _ _ _ _ _ _ _ _ _ _ _ _ _ _ _ _ _ _ _ _ _ _ _ _ _ _ _ _ _ _ _ _ _ _ _ _ _ _ _ _ _ _ _ _ _ _ _ _ _ _ _ _ _ _ _ _ _ _ _ _ _ _ _ _ _ _ _ _ _ _ _ _ _ _ _ _ _ _ _ _ _ _ _ _ _ _ _ _ _ _ _ _ _ _ _ _ _ _ _ _ _ _ _ _ _ _ _ _ _ _ _ _ _ _ _ _ _ _ _ _ _ _ _ _ _ _ _ _ _ _ _ _ _ _ _ _ _ _ _ _ _ _ _ _ _ _ _ _ _ _ _ _ _ _ _ _ _ _ _ _ _ _ _ _ _ _ _ _ _ _ _ _ _ _ _ _ _ _ _ _ _ _ _ _ _ _ _ _ _ _ _ _ _ _ _ _ _ _ _ _ _ _ _ _ _ _ _ _ _ _ _ _ _ _ _ _ _ _ _ _ _ _ _ _ _ _ _ _ _ _ _ _ _ _ _ _ _ _ _ _ _ _ _ _ _ _ _ _ _ _ _ _ _ _ _ _ _ _ _ _ _ _ _ _ _ _ _ _ _ _ _ _ _ _ _ _ _ _ _ _ _ _ _ _ _ _ _ _ _ _ _ _ _ _ _ hN hc0 hc1 (by omega) (by omega) (by omega) (by omega) (by omega) (by omega) hM1 hF1 hK1 ?_ ?_
        · intro v24 v25 v26 v27 v28 v29 v98 v99 v100 v101 v102 v103 v104 v105 v106 v107 v108 v109 v110 v111 v112 v113 v114 v115 v116 v117 v118 v119 v120 v121 v122 v123 v124 v125 v126 v127 v128 v129 v130 v131 v132 v133 v134 v135 v136 v137 v138 v139 v140 v141 v142 v143 v144 v145 v146 v147 v148 v149 v150 v151 v152 v153 v154 v155 v156 v157 v158 v159 v160 v161 v162 v163 v164 v165 v166 v167 v168 v169 v170 v171 v172 v173 v174 v175 v176 v177 v178 v179 v180 v181 v182 v183 v184 v185 v186 v187 v188 v189 v190 v191 v192 v193 v194 v195 v196 v197 v198 v199 v200 v201 v202 v203 v204 v205 v206 v207 v208 v209 v210 v211 v212 v213 v214 v215 v216 v217 v218 v219 v220 v221 v222 v223 v224 v225 v226 v227 v228 v229 v230 v231 v232 v233 v234 v235 v236 v237 v238 v239 v240 v241 v242 v243 v244 v245 v246 v247 v248 v249 v250 v251 v252 v253 v254 v255 v256 v257 v258 v259 v260 s1 w1 e1 hM2 hF2 hK2 q1 q2
          have hE : Hid (My.fwdL (eqf P a0 b0) n m c B lo g (k - 1) (My.fwdK (eqf P a0 b0) n m c B k F).2 = res) := by
            show _ = _
            rw [← hR.out, My.fwdL, if_neg (by omega), e1]
          clear hR HX HT hM1 hK1 hF1 e1
          generalize (My.fwdK (eqf P a0 b0) n m c B k F).2 = F2 at *
          go_wp2
          go_roundg g
          case measure => omega
          case rel => exact ⟨k - 1, s1, F2, rfl, by omega, by omega, by omega, hM2, hF2, hK2, by omega, by omega, hE⟩
        · intro a r F' s1 w1 e1 e2 e3 e4 e5 e6 e7 hM2 hK2 q1 q2
          have hE : res.1 = some r := by
            rw [← hR.out, My.fwdL, if_neg (by omega), e1]
          exact HT.out a r F' s1 w1 hE e2 e3 e4 e5 e6 e7 hM2 hK2 (by omega) (by omega)
end Go.Proofs.Qxb6601687a

import Derived.Test.Qxb6601687aStepB
import Derived.Deep.CutBlock
import Derived.Deep.LoopGhost
import Derived.Deep.QuietTactic
import Derived.BigQuiet
namespace Go.Proofs.Qxb6601687a
open Go.ChangeShapes Go.WideShapes Go.ChangeAt Go.RowKit

set_option maxRecDepth 100000 in
set_option maxHeartbeats 8000000 in
/-- The backward pass. -/
theorem bwd_wp (P : Lay) (vd vi : Value) (a0 a1 b0 b1 n m c st : Int) (F B0 : Int → Int) (w w0 : World) (Q0 : Exit → Act → World → Prop) (u5 u6 u7 u8 u9 u10 u11 u12 u13 u14 u21 u23 u24 u25 u26 u27 u28 u29 u31 u32 u33 u34 u35 u36 u37 u38 u39 u40 u41 u42 u43 u44 u45 u46 u47 u48 u49 u50 u51 u52 u53 u54 u55 u56 u57 u58 u59 u60 u61 u62 u63 u64 u65 u66 u67 u68 u69 u70 u71 u72 u73 u74 u75 u76 u77 u78 u79 u80 u81 u82 u83 u84 u85 u86 u87 u88 u89 u90 u91 u92 u93 u94 u95 u96 u97 u98 u99 u100 u101 u102 u103 u104 u105 u106 u107 u108 u109 u110 u111 u112 u113 u114 u115 u116 u117 u118 u119 u120 u121 u122 u123 u124 u125 u126 u127 u128 u129 u130 u131 u132 u133 u134 u135 u136 u137 u138 u139 u140 u141 u142 u143 u144 u145 u146 u147 u148 u149 u150 u151 u152 u153 u154 u155 u156 u157 u158 u159 u160 u161 u162 u163 u164 u165 u166 u167 u168 u169 u170 u171 u172 u173 u174 u175 u176 u177 u178 u179 u180 u181 u182 u183 u184 u185 u186 u187 u188 u189 u190 u191 u192 u193 u194 u195 u196 u197 u198 u199 u200 u201 u202 u203 u204 u205 u206 u207 u208 u209 u210 u211 u212 u213 u214 u215 u216 u217 u218 u219 u220 u221 u222 u223 u224 u225 u226 u227 u228 u229 u230 u231 u232 u233 u234 u235 u236 u237 u238 u239 u240 u241 u242 u243 u244 u245 u246 u247 u248 u249 u250 u251 u252 u253 u254 u255 u256 u257 u258 u259 u260 u261 u262 u263 u264 u265 u266 u267 u268 u269 u270 u271 u272 u273 u274 u275 u276 u277 u278 u279 u280 u281 u282 u283 u284 u285 u286 u287 u288 u289 u290 u291 u292 u293 u294 u295 u296 u297 u298 u299 u300 u301 u302 u303 u304 u305 u306 u307 u308 u309 u310 u311 u312 u313 u314 u315 u316 u317 u318 u319 u320 u321 u322 u323 u324 u325 u326 u327 u328 u329 u330 u331 u332 u333 u334 u335 u336 u337 u338 u339 u340 u341 u342 u343 u344 u345 u346 u347 u348 u349 u350 u351 u352 u353 u354 u355 u356 u357 u358 u359 u360 u361 u362 u363 u364 u365 u366 u367 u368 u369 u370 u371 u372 u373 u374 u375 u376 u377 u378 u379 u380 u381 u382 u383 u384 u385 u386 u387 u388 u389 u390 u391 u392 u393 u394 u395 u396 u397 u398 u399 u400 u401 u402 u403 u404 u405 u406 u407 u408 u409 u410 u411 u412 u413 u414 u415 u416 u417 u418 u419 u420 u421 u422 u423 u424 u425 u426 u427 u428 u429 u430 u431 u432 u433 u434 u435 u436 : Value)
    (hN : Nums P a0 b0 n m) (hc0 : 0 ≤ c) (hc1 : c ≤ 1025) (hst : 8388608 ≤ st) (hst2 : st ≤ 9223372036854775807)
    (hM : MS P vd vi n m F B0 st w) (hF : FB n m B0) (hK : KeptBut [P.L, P.fb, P.gb] w0 w)
    (hexit : ∀ (v10 v11 v12 v13 v14 v30 v31 v32 v33 v34 v35 v36 v37 v266 v267 v268 v269 v270 v271 v272 v273 v274 v275 v276 v277 v278 v279 v280 v281 v282 v283 v284 v285 v286 v287 v288 v289 v290 v291 v292 v293 v294 v295 v296 v297 v298 v299 v300 v301 v302 v303 v304 v305 v306 v307 v308 v309 v310 v311 v312 v313 v314 v315 v316 v317 v318 v319 v320 v321 v322 v323 v324 v325 v326 v327 v328 v329 v330 v331 v332 v333 v334 v335 v336 v337 v338 v339 v340 v341 v342 v343 v344 v345 v346 v347 v348 v349 v350 v351 v352 v353 v354 v355 v356 v357 v358 v359 v360 v361 v362 v363 v364 v365 v366 v367 v368 v369 v370 v371 v372 v373 v374 v375 v376 v377 v378 v379 v380 v381 v382 v383 v384 v385 v386 v387 v388 v389 v390 v391 v392 v393 v394 v395 v396 v397 v398 v399 v400 v401 v402 v403 v404 v405 v406 v407 v408 v409 v410 v411 v412 v413 v414 v415 v416 v417 v418 v419 v420 v421 v422 v423 v424 v425 v426 v427 v428 v429 v430 v431 v432 v433 v434 v435 v436 : Value) (st' : Int) (w' : World), (My.bwdP (eqf P a0 b0) n m c F B0).1 = none → MS P vd vi n m F (My.bwdP (eqf P a0 b0) n m c F B0).2 st' w' → FB n m (My.bwdP (eqf P a0 b0) n m c F B0).2 → KeptBut [P.L, P.fb, P.gb] w0 w' → st - 4194304 ≤ st' → st' ≤ st → Q0 (.exit 8) ⟨List.toArray (Value.pointer (some ⟨P.L, 0, none⟩) :: Value.int .i64 a0 :: Value.int .i64 a1 :: Value.int .i64 b0 :: Value.int .i64 b1 :: u5 :: u6 :: u7 :: u8 :: u9 :: v10 :: v11 :: v12 :: v13 :: v14 :: Value.int .i64 n :: Value.int .i64 m :: Value.int .i64 (n - m) :: Value.int .i64 (m + 1) :: Value.slice (some ⟨P.fb, 0, none⟩) (n + m + 3).toNat P.sz :: Value.slice (some ⟨P.gb, 0, none⟩) (n + m + 3).toNat P.sz :: u21 :: Value.int .i64 c :: u23 :: u24 :: u25 :: u26 :: u27 :: u28 :: u29 :: v30 :: v31 :: v32 :: v33 :: v34 :: v35 :: v36 :: v37 :: u38 :: u39 :: u40 :: u41 :: u42 :: u43 :: u44 :: u45 :: u46 :: u47 :: u48 :: u49 :: u50 :: u51 :: u52 :: u53 :: u54 :: u55 :: u56 :: u57 :: u58 :: u59 :: u60 :: u61 :: u62 :: u63 :: u64 :: u65 :: u66 :: u67 :: u68 :: u69 :: u70 :: u71 :: u72 :: u73 :: u74 :: u75 :: u76 :: u77 :: u78 :: u79 :: u80 :: u81 :: u82 :: u83 :: u84 :: u85 :: u86 :: u87 :: u88 :: u89 :: u90 :: u91 :: u92 :: u93 :: u94 :: u95 :: u96 :: u97 :: u98 :: u99 :: u100 :: u101 :: u102 :: u103 :: u104 :: u105 :: u106 :: u107 :: u108 :: u109 :: u110 :: u111 :: u112 :: u113 :: u114 :: u115 :: u116 :: u117 :: u118 :: u119 :: u120 :: u121 :: u122 :: u123 :: u124 :: u125 :: u126 :: u127 :: u128 :: u129 :: u130 :: u131 :: u132 :: u133 :: u134 :: u135 :: u136 :: u137 :: u138 :: u139 :: u140 :: u141 :: u142 :: u143 :: u144 :: u145 :: u146 :: u147 :: u148 :: u149 :: u150 :: u151 :: u152 :: u153 :: u154 :: u155 :: u156 :: u157 :: u158 :: u159 :: u160 :: u161 :: u162 :: u163 :: u164 :: u165 :: u166 :: u167 :: u168 :: u169 :: u170 :: u171 :: u172 :: u173 :: u174 :: u175 :: u176 :: u177 :: u178 :: u179 :: u180 :: u181 :: u182 :: u183 :: u184 :: u185 :: u186 :: u187 :: u188 :: u189 :: u190 :: u191 :: u192 :: u193 :: u194 :: u195 :: u196 :: u197 :: u198 :: u199 :: u200 :: u201 :: u202 :: u203 :: u204 :: u205 :: u206 :: u207 :: u208 :: u209 :: u210 :: u211 :: u212 :: u213 :: u214 :: u215 :: u216 :: u217 :: u218 :: u219 :: u220 :: u221 :: u222 :: u223 :: u224 :: u225 :: u226 :: u227 :: u228 :: u229 :: u230 :: u231 :: u232 :: u233 :: u234 :: u235 :: u236 :: u237 :: u238 :: u239 :: u240 :: u241 :: u242 :: u243 :: u244 :: u245 :: u246 :: u247 :: u248 :: u249 :: u250 :: u251 :: u252 :: u253 :: u254 :: u255 :: u256 :: u257 :: u258 :: u259 :: u260 :: u261 :: u262 :: u263 :: u264 :: u265 :: v266 :: v267 :: v268 :: v269 :: v270 :: v271 :: v272 :: v273 :: v274 :: v275 :: v276 :: v277 :: v278 :: v279 :: v280 :: v281 :: v282 :: v283 :: v284 :: v285 :: v286 :: v287 :: v288 :: v289 :: v290 :: v291 :: v292 :: v293 :: v294 :: v295 :: v296 :: v297 :: v298 :: v299 :: v300 :: v301 :: v302 :: v303 :: v304 :: v305 :: v306 :: v307 :: v308 :: v309 :: v310 :: v311 :: v312 :: v313 :: v314 :: v315 :: v316 :: v317 :: v318 :: v319 :: v320 :: v321 :: v322 :: v323 :: v324 :: v325 :: v326 :: v327 :: v328 :: v329 :: v330 :: v331 :: v332 :: v333 :: v334 :: v335 :: v336 :: v337 :: v338 :: v339 :: v340 :: v341 :: v342 :: v343 :: v344 :: v345 :: v346 :: v347 :: v348 :: v349 :: v350 :: v351 :: v352 :: v353 :: v354 :: v355 :: v356 :: v357 :: v358 :: v359 :: v360 :: v361 :: v362 :: v363 :: v364 :: v365 :: v366 :: v367 :: v368 :: v369 :: v370 :: v371 :: v372 :: v373 :: v374 :: v375 :: v376 :: v377 :: v378 :: v379 :: v380 :: v381 :: v382 :: v383 :: v384 :: v385 :: v386 :: v387 :: v388 :: v389 :: v390 :: v391 :: v392 :: v393 :: v394 :: v395 :: v396 :: v397 :: v398 :: v399 :: v400 :: v401 :: v402 :: v403 :: v404 :: v405 :: v406 :: v407 :: v408 :: v409 :: v410 :: v411 :: v412 :: v413 :: v414 :: v415 :: v416 :: v417 :: v418 :: v419 :: v420 :: v421 :: v422 :: v423 :: v424 :: v425 :: v426 :: v427 :: v428 :: v429 :: v430 :: v431 :: v432 :: v433 :: v434 :: v435 :: v436 :: []), []⟩ w')
    (hret : ∀ (a : Act) (r : Int × Int × Int × Int) (B' : Int → Int) (st' : Int) (w' : World), (My.bwdP (eqf P a0 b0) n m c F B0).1 = some r → a.defers = [] → a.tmps.getD 10 undef = .int .i64 r.1 → a.tmps.getD 11 undef = .int .i64 r.2.1 → a.tmps.getD 12 undef = .int .i64 r.2.2.1 → a.tmps.getD 13 undef = .int .i64 r.2.2.2 → a.tmps.getD 14 undef = .bool true → MS P vd vi n m F B' st' w' → KeptBut [P.L, P.fb, P.gb] w0 w' → st - 4194304 ≤ st' → st' ≤ st → Q0 .ret a w') :
    Code.wp Try.prog (Code.loop ((loopsOf (Try.f33.body.getD .skip)).getD 4 .skip)) Q0 ⟨List.toArray (Value.pointer (some ⟨P.L, 0, none⟩) :: Value.int .i64 a0 :: Value.int .i64 a1 :: Value.int .i64 b0 :: Value.int .i64 b1 :: u5 :: u6 :: u7 :: u8 :: u9 :: u10 :: u11 :: u12 :: u13 :: u14 :: Value.int .i64 n :: Value.int .i64 m :: Value.int .i64 (n - m) :: Value.int .i64 (m + 1) :: Value.slice (some ⟨P.fb, 0, none⟩) (n + m + 3).toNat P.sz :: Value.slice (some ⟨P.gb, 0, none⟩) (n + m + 3).toNat P.sz :: u21 :: Value.int .i64 c :: u23 :: u24 :: u25 :: u26 :: u27 :: u28 :: u29 :: Value.int .i64 (My.bHi n m c) :: u31 :: u32 :: u33 :: u34 :: u35 :: u36 :: u37 :: u38 :: u39 :: u40 :: u41 :: u42 :: u43 :: u44 :: u45 :: u46 :: u47 :: u48 :: u49 :: u50 :: u51 :: u52 :: u53 :: u54 :: u55 :: u56 :: u57 :: u58 :: u59 :: u60 :: u61 :: u62 :: u63 :: u64 :: u65 :: u66 :: u67 :: u68 :: u69 :: u70 :: u71 :: u72 :: u73 :: u74 :: u75 :: u76 :: u77 :: u78 :: u79 :: u80 :: u81 :: u82 :: u83 :: u84 :: u85 :: u86 :: u87 :: u88 :: u89 :: u90 :: u91 :: u92 :: u93 :: u94 :: u95 :: u96 :: u97 :: u98 :: u99 :: u100 :: u101 :: u102 :: u103 :: u104 :: u105 :: u106 :: u107 :: u108 :: u109 :: u110 :: u111 :: u112 :: u113 :: u114 :: u115 :: u116 :: u117 :: u118 :: u119 :: u120 :: u121 :: u122 :: u123 :: u124 :: u125 :: u126 :: u127 :: u128 :: u129 :: u130 :: u131 :: u132 :: u133 :: u134 :: u135 :: u136 :: u137 :: u138 :: u139 :: u140 :: u141 :: u142 :: u143 :: u144 :: u145 :: u146 :: u147 :: u148 :: u149 :: u150 :: u151 :: u152 :: u153 :: u154 :: u155 :: u156 :: u157 :: u158 :: u159 :: u160 :: u161 :: u162 :: u163 :: u164 :: u165 :: u166 :: u167 :: u168 :: u169 :: u170 :: u171 :: u172 :: u173 :: u174 :: u175 :: u176 :: u177 :: u178 :: u179 :: u180 :: u181 :: u182 :: u183 :: u184 :: u185 :: u186 :: u187 :: u188 :: u189 :: u190 :: u191 :: u192 :: u193 :: u194 :: u195 :: u196 :: u197 :: u198 :: u199 :: u200 :: u201 :: u202 :: u203 :: u204 :: u205 :: u206 :: u207 :: u208 :: u209 :: u210 :: u211 :: u212 :: u213 :: u214 :: u215 :: u216 :: u217 :: u218 :: u219 :: u220 :: u221 :: u222 :: u223 :: u224 :: u225 :: u226 :: u227 :: u228 :: u229 :: u230 :: u231 :: u232 :: u233 :: u234 :: u235 :: u236 :: u237 :: u238 :: u239 :: u240 :: u241 :: u242 :: u243 :: u244 :: u245 :: u246 :: u247 :: u248 :: u249 :: u250 :: u251 :: u252 :: u253 :: u254 :: u255 :: u256 :: u257 :: u258 :: u259 :: u260 :: u261 :: u262 :: u263 :: u264 :: u265 :: u266 :: u267 :: u268 :: u269 :: u270 :: u271 :: u272 :: u273 :: u274 :: u275 :: u276 :: u277 :: u278 :: u279 :: u280 :: u281 :: u282 :: u283 :: u284 :: u285 :: u286 :: u287 :: u288 :: u289 :: u290 :: u291 :: u292 :: u293 :: u294 :: u295 :: u296 :: u297 :: u298 :: u299 :: u300 :: u301 :: u302 :: u303 :: u304 :: u305 :: u306 :: u307 :: u308 :: u309 :: u310 :: u311 :: u312 :: u313 :: u314 :: u315 :: u316 :: u317 :: u318 :: u319 :: u320 :: u321 :: u322 :: u323 :: u324 :: u325 :: u326 :: u327 :: u328 :: u329 :: u330 :: u331 :: u332 :: u333 :: u334 :: u335 :: u336 :: u337 :: u338 :: u339 :: u340 :: u341 :: u342 :: u343 :: u344 :: u345 :: u346 :: u347 :: u348 :: u349 :: u350 :: u351 :: u352 :: u353 :: u354 :: u355 :: u356 :: u357 :: u358 :: u359 :: u360 :: u361 :: u362 :: u363 :: u364 :: u365 :: u366 :: u367 :: u368 :: u369 :: u370 :: u371 :: u372 :: u373 :: u374 :: u375 :: u376 :: u377 :: u378 :: u379 :: u380 :: u381 :: u382 :: u383 :: u384 :: u385 :: u386 :: u387 :: u388 :: u389 :: u390 :: u391 :: u392 :: u393 :: u394 :: u395 :: u396 :: u397 :: u398 :: u399 :: u400 :: u401 :: u402 :: u403 :: u404 :: u405 :: u406 :: u407 :: u408 :: u409 :: u410 :: u411 :: u412 :: u413 :: u414 :: u415 :: u416 :: u417 :: u418 :: u419 :: u420 :: u421 :: u422 :: u423 :: u424 :: u425 :: u426 :: u427 :: u428 :: u429 :: u430 :: u431 :: u432 :: u433 :: u434 :: u435 :: u436 :: []), []⟩ w := by
  obtain ⟨n1, m1, n2, m2, ha, hb, hal, hbl, hla, hlb, hsz⟩ := id hN
  have lo1 : (n - m) - c ≤ My.bLo n m c := by unfold My.bLo; omega
  have lo2 : -m ≤ My.bLo n m c := by unfold My.bLo; omega
  have lo3 : My.bLo n m c ≤ n - m := by unfold My.bLo; omega
  have hi1 : My.bHi n m c ≤ (n - m) + c := by unfold My.bHi; omega
  have hi2 : My.bHi n m c ≤ n := by unfold My.bHi; omega
  have hi3 : n - m ≤ My.bHi n m c := by unfold My.bHi; omega
  have HLO : Hid (My.bLo n m c = max ((n - m) - c) (-m)) := rfl
  have HR : Hid (My.bwdP (eqf P a0 b0) n m c F B0 = My.bwdL (eqf P a0 b0) n m c F (My.bLo n m c) (My.bHi n m c - My.bLo n m c + 1).toNat (My.bHi n m c) B0) := rfl
  generalize My.bLo n m c = lo at *
  generalize My.bHi n m c = hi at *
  generalize My.bwdP (eqf P a0 b0) n m c F B0 = res at *
  conv => arg 2; arg 1; whnf
  go_loopg [30] (hi - lo + 1).toNat (fun g KK wr => ∃ (k s : Int) (B : Int → Int), KK = .int .i64 k ∧ lo - 1 ≤ k ∧ k ≤ hi ∧ (g : Int) = k - lo + 1 ∧ MS P vd vi n m F B s wr ∧ FB n m B ∧ KeptBut [P.L, P.fb, P.gb] w0 wr ∧ st - (hi - k) * 1100 ≤ s ∧ s ≤ st ∧ Hid (My.bwdL (eqf P a0 b0) n m c F lo g k B = res))
  case atStart => exact ⟨hi, st, B0, rfl, by omega, by omega, by omega, hM, hF, hK, by omega, by omega, HR.out.symm⟩
  case round =>
    obtain ⟨k, s, B, rfl, hk1, hk2, hg, hM1, hF1, hK1, hs1, hs2, hR⟩ := hrel
    clear hM hK hF HR
    go_upto_region 42 with fail
    go_cut [273] from 266 to 272 (fun b w' => w' = wr ∧ b = .bool (decide (lo ≤ k)))
    case first =>
      rcases Int.lt_trichotomy ((n - m) - c) (-m) with h4 | h4 | h4
      · have H : Hid (lo = -m) := by show _ = _; rw [HLO.out]; omega
        by_cases hlo : -m ≤ k
        · have HD : Hid (decide (lo ≤ k) = true) := decide_eq_true (by rw [H.out]; exact hlo)
          go_wp2_with fail
          go_meet
          case rel => exact ⟨rfl, by rw [HD.out]⟩
        · have HD : Hid (decide (lo ≤ k) = false) := decide_eq_false (by rw [H.out]; exact hlo)
          go_wp2_with fail
          go_meet
          case rel => exact ⟨rfl, by rw [HD.out]⟩
      · have H : Hid (lo = -m) := by show _ = _; rw [HLO.out]; omega
        have h5 : n = c := by omega
        subst h5
        clear h4
        have h6 : n - m - n = -m := by omega
        by_cases hlo : -m ≤ k
        · have HD : Hid (decide (lo ≤ k) = true) := decide_eq_true (by rw [H.out]; exact hlo)
          go_wp2_with fail
          go_meet
          case rel => exact ⟨rfl, by rw [HD.out]⟩
        · have HD : Hid (decide (lo ≤ k) = false) := decide_eq_false (by rw [H.out]; exact hlo)
          go_wp2_with fail
          go_meet
          case rel => exact ⟨rfl, by rw [HD.out]⟩
      · have H : Hid (lo = (n - m) - c) := by show _ = _; rw [HLO.out]; omega
        by_cases hlo : (n - m) - c ≤ k
        · have HD : Hid (decide (lo ≤ k) = true) := decide_eq_true (by rw [H.out]; exact hlo)
          go_wp2_with fail
          go_meet
          case rel => exact ⟨rfl, by rw [HD.out]⟩
        · have HD : Hid (decide (lo ≤ k) = false) := decide_eq_false (by rw [H.out]; exact hlo)
          go_wp2_with fail
          go_meet
          case rel => exact ⟨rfl, by rw [HD.out]⟩
    case rest =>
      obtain ⟨rfl, rfl⟩ := hcut
      have HX := hide hexit
      have HT := hide hret
      clear hexit hret
      by_cases hlo : lo ≤ k
      rotate_left
      · have hE : Hid (res = (none, B)) := by
          show _ = _
          rw [← hR.out]
          cases gk with
          | zero => rw [My.bwdL]
          | succ g => rw [My.bwdL, if_pos (by omega)]
        rw [decide_eq_false hlo]
        clear hR HT hlo
        go_wp2
        exact HX.out _ _ _ _ _ _ _ _ _ _ _ _ _ _ _ _ _ _ _ _ _ _ _ _ _ _ _ _ _ _ _ _ _ _ _ _ _ _ _ _ _ _ _ _ _ _ _ _ _ _ _ _ _ _ _ _ _ _ _ _ _ _ _ _ _ _ _ _ _ _ _ _ _ _ _ _ _ _ _ _ _ _ _ _ _ _ _ _ _ _ _ _ _ _ _ _ _ _ _ _ _ _ _ _ _ _ _ _ _ _ _ _ _ _ _ _ _ _ _ _ _ _ _ _ _ _ _ _ _ _ _ _ _ _ _ _ _ _ _ _ _ _ _ _ _ _ _ _ _ _ _ _ _ _ _ _ _ _ _ _ _ _ _ _ _ _ _ _ _ _ _ _ _ _ _ _ _ _ _ _ _ _ _ _ _ _ (by rw [hE.out]) (by rw [hE.out]; exact hM1) (by rw [hE.out]; exact hF1) hK1 (by omega) (by omega)
      · obtain ⟨g, rfl⟩ : ∃ g, gk = g + 1 := ⟨gk - 1, by omega⟩
        rw [decide_eq_true hlo]
        go_upto_block 9 with fail
        refine stepB_wp P vd vi a0 a1 b0 b1 n m c k s F B _ w0 _ _ _ _ _ _ _ _ _ _ _ _ _ _ _ _ _ _ _ _ _ _ _ _ _ _ _ _ _ _ _ _ _ _ _ _ _ _ _ _ _ _ _ _ _ _ _ _ _ _ _ _ _ _ _ _ _ _ _ _ _ _ _ _ _ _ _ _ _ _ _ _ _ _ _ _ _ _ _ _ _ _ _ _ _ _ _ _ _ _ _ _ _ _ _ _ _ _ _ _ _ _ _ _ _ _ _ _ _ _ _ _ _ _ _ _ _ _ _ _ _ _ _ _ _ _ _ _ _ _ _ _ _ _ _ _ _ _ _ _ _ _ _ _ _ _ _ _ _ _ _ _ _ _ _ _ _ _ _ _ _ _ _ _ _ _ _ _ _ _ _ _ _ _ _ _ _ _ _ _ _ _ _ _ _ _ _ _ _ _ _ _ _ _ _ _ _ _ _ _ _ _ _ _ _ _ _ _ _ _ _ _ _ _ _ _ _ _ _ _ _ _ _ _ _ _ _ _ _ _ _ _ _ _ _ _ _ _ _ _ _ _ _ _ _ _ _ _ _ _ _ _ _ _ _ _ _ _ _ _ _ _ _ _ _ _ _ _ _ _ _ _ _ _ _ _ _ _ _ _ _ _ _ _ _ _ _ _ _ _ _ _ _ _ _ _ _ _ _ _ _ _ _ _ _ _ _ _ _ _ _ _ _ _ _ _ _ _ _ _ _ _ _ _ _ _ _ _ _ _ _ _ _ _ _ _ _ _ _ _ _ _ _ _ _ _ _ _ _ _ _ _ _ _ _ _ _ _ _ _ _ _ _ _ _ _ _ _ _ _ _ _ _ _ _ _ _ _ _ _ _ _ _ _ _ _ _ _ _ _ _ _ _ _ _ _ _ _ _ _ _ _ _ _ _ _ _ _ _ _ _ _ _ _ _ _ _ _ _ _ _ _ _ _ _ hN hc0 hc1 (by omega) (by omega) (by omega) (by omega) (by omega) (by omega) hM1 hF1 hK1 ?_ ?_
        · intro v31 v32 v33 v34 v35 v36 v37 v274 v275 v276 v277 v278 v279 v280 v281 v282 v283 v284 v285 v286 v287 v288 v289 v290 v291 v292 v293 v294 v295 v296 v297 v298 v299 v300 v301 v302 v303 v304 v305 v306 v307 v308 v309 v310 v311 v312 v313 v314 v315 v316 v317 v318 v319 v320 v321 v322 v323 v324 v325 v326 v327 v328 v329 v330 v331 v332 v333 v334 v335 v336 v337 v338 v339 v340 v341 v342 v343 v344 v345 v346 v347 v348 v349 v350 v351 v352 v353 v354 v355 v356 v357 v358 v359 v360 v361 v362 v363 v364 v365 v366 v367 v368 v369 v370 v371 v372 v373 v374 v375 v376 v377 v378 v379 v380 v381 v382 v383 v384 v385 v386 v387 v388 v389 v390 v391 v392 v393 v394 v395 v396 v397 v398 v399 v400 v401 v402 v403 v404 v405 v406 v407 v408 v409 v410 v411 v412 v413 v414 v415 v416 v417 v418 v419 v420 v421 v422 v423 v424 v425 v426 v427 v428 v429 v430 v431 v432 v433 v434 v435 v436 s1 w1 e1 hM2 hF2 hK2 q1 q2
          have hE : Hid (My.bwdL (eqf P a0 b0) n m c F lo g (k - 1) (My.bwdK (eqf P a0 b0) n m c F k B).2 = res) := by
            show _ = _
            rw [← hR.out, My.bwdL, if_neg (by omega), e1]
          clear hR HX HT hM1 hK1 hF1 e1
          generalize (My.bwdK (eqf P a0 b0) n m c F k B).2 = F2 at *
          go_wp2
          go_roundg g
          case measure => omega
          case rel => exact ⟨k - 1, s1, F2, rfl, by omega, by omega, by omega, hM2, hF2, hK2, by omega, by omega, hE⟩
        · intro a r F' s1 w1 e1 e2 e3 e4 e5 e6 e7 hM2 hK2 q1 q2
          have hE : res.1 = some r := by
            rw [← hR.out, My.bwdL, if_neg (by omega), e1]
          exact HT.out a r F' s1 w1 hE e2 e3 e4 e5 e6 e7 hM2 hK2 (by omega) (by omega)
end Go.Proofs.Qxb6601687a

import Derived.Test.Qxb6601687aStepF
import Derived.Test.Qxb6601687aRet
import Derived.Deep.CutBlock
import Derived.Deep.LoopGhost
import Derived.Deep.QuietTactic
import Derived.BigQuiet
namespace Go.Proofs.Qxb6601687a
open Go.ChangeShapes Go.WideShapes Go.ChangeAt Go.RowKit

theorem tmod_two' (x : Int) : (x.tmod 2 == 0) = decide (x % 2 = 0) := by
  have h := tmod_two x
  rw [bne, Bool.not_eq_eq_eq_not] at h
  rw [h, Bool.eq_iff_iff]
  simp

set_option maxRecDepth 100000 in
set_option maxHeartbeats 8000000 in
/-- One diagonal of the backward pass. -/
theorem stepB_wp (P : Lay) (vd vi : Value) (a0 a1 b0 b1 n m c k st : Int) (F B : Int → Int) (w w0 : World) (Q : Exit → Act → World → Prop) (u5 u6 u7 u8 u9 u10 u11 u12 u13 u14 u21 u23 u24 u25 u26 u27 u28 u29 u31 u32 u33 u34 u35 u36 u37 u38 u39 u40 u41 u42 u43 u44 u45 u46 u47 u48 u49 u50 u51 u52 u53 u54 u55 u56 u57 u58 u59 u60 u61 u62 u63 u64 u65 u66 u67 u68 u69 u70 u71 u72 u73 u74 u75 u76 u77 u78 u79 u80 u81 u82 u83 u84 u85 u86 u87 u88 u89 u90 u91 u92 u93 u94 u95 u96 u97 u98 u99 u100 u101 u102 u103 u104 u105 u106 u107 u108 u109 u110 u111 u112 u113 u114 u115 u116 u117 u118 u119 u120 u121 u122 u123 u124 u125 u126 u127 u128 u129 u130 u131 u132 u133 u134 u135 u136 u137 u138 u139 u140 u141 u142 u143 u144 u145 u146 u147 u148 u149 u150 u151 u152 u153 u154 u155 u156 u157 u158 u159 u160 u161 u162 u163 u164 u165 u166 u167 u168 u169 u170 u171 u172 u173 u174 u175 u176 u177 u178 u179 u180 u181 u182 u183 u184 u185 u186 u187 u188 u189 u190 u191 u192 u193 u194 u195 u196 u197 u198 u199 u200 u201 u202 u203 u204 u205 u206 u207 u208 u209 u210 u211 u212 u213 u214 u215 u216 u217 u218 u219 u220 u221 u222 u223 u224 u225 u226 u227 u228 u229 u230 u231 u232 u233 u234 u235 u236 u237 u238 u239 u240 u241 u242 u243 u244 u245 u246 u247 u248 u249 u250 u251 u252 u253 u254 u255 u256 u257 u258 u259 u260 u261 u262 u263 u264 u265 u266 u267 u268 u269 u270 u271 u272 u273 u274 u275 u276 u277 u278 u279 u280 u281 u282 u283 u284 u285 u286 u287 u288 u289 u290 u291 u292 u293 u294 u295 u296 u297 u298 u299 u300 u301 u302 u303 u304 u305 u306 u307 u308 u309 u310 u311 u312 u313 u314 u315 u316 u317 u318 u319 u320 u321 u322 u323 u324 u325 u326 u327 u328 u329 u330 u331 u332 u333 u334 u335 u336 u337 u338 u339 u340 u341 u342 u343 u344 u345 u346 u347 u348 u349 u350 u351 u352 u353 u354 u355 u356 u357 u358 u359 u360 u361 u362 u363 u364 u365 u366 u367 u368 u369 u370 u371 u372 u373 u374 u375 u376 u377 u378 u379 u380 u381 u382 u383 u384 u385 u386 u387 u388 u389 u390 u391 u392 u393 u394 u395 u396 u397 u398 u399 u400 u401 u402 u403 u404 u405 u406 u407 u408 u409 u410 u411 u412 u413 u414 u415 u416 u417 u418 u419 u420 u421 u422 u423 u424 u425 u426 u427 u428 u429 u430 u431 u432 u433 u434 u435 u436 : Value)
    (hN : Nums P a0 b0 n m) (hc0 : 0 ≤ c) (hc1 : c ≤ 1025) (hk1 : -m ≤ k) (hk2 : k ≤ n) (hk3 : (n - m) - c ≤ k) (hk4 : k ≤ (n - m) + c) (hst : 4096 ≤ st) (hst2 : st ≤ 9223372036854775807)
    (hM : MS P vd vi n m F B st w) (hF : FB n m B) (hK : KeptBut [P.L, P.fb, P.gb] w0 w)
    (hnext : ∀ (v31 v32 v33 v34 v35 v36 v37 v274 v275 v276 v277 v278 v279 v280 v281 v282 v283 v284 v285 v286 v287 v288 v289 v290 v291 v292 v293 v294 v295 v296 v297 v298 v299 v300 v301 v302 v303 v304 v305 v306 v307 v308 v309 v310 v311 v312 v313 v314 v315 v316 v317 v318 v319 v320 v321 v322 v323 v324 v325 v326 v327 v328 v329 v330 v331 v332 v333 v334 v335 v336 v337 v338 v339 v340 v341 v342 v343 v344 v345 v346 v347 v348 v349 v350 v351 v352 v353 v354 v355 v356 v357 v358 v359 v360 v361 v362 v363 v364 v365 v366 v367 v368 v369 v370 v371 v372 v373 v374 v375 v376 v377 v378 v379 v380 v381 v382 v383 v384 v385 v386 v387 v388 v389 v390 v391 v392 v393 v394 v395 v396 v397 v398 v399 v400 v401 v402 v403 v404 v405 v406 v407 v408 v409 v410 v411 v412 v413 v414 v415 v416 v417 v418 v419 v420 v421 v422 v423 v424 v425 v426 v427 v428 v429 v430 v431 v432 v433 v434 v435 v436 : Value) (st' : Int) (w' : World), (My.bwdK (eqf P a0 b0) n m c F k B).1 = none → MS P vd vi n m F (My.bwdK (eqf P a0 b0) n m c F k B).2 st' w' → FB n m (My.bwdK (eqf P a0 b0) n m c F k B).2 → KeptBut [P.L, P.fb, P.gb] w0 w' → st - 1100 ≤ st' → st' ≤ st → Q .normal ⟨List.toArray (Value.pointer (some ⟨P.L, 0, none⟩) :: Value.int .i64 a0 :: Value.int .i64 a1 :: Value.int .i64 b0 :: Value.int .i64 b1 :: u5 :: u6 :: u7 :: u8 :: u9 :: u10 :: u11 :: u12 :: u13 :: u14 :: Value.int .i64 n :: Value.int .i64 m :: Value.int .i64 (n - m) :: Value.int .i64 (m + 1) :: Value.slice (some ⟨P.fb, 0, none⟩) (n + m + 3).toNat P.sz :: Value.slice (some ⟨P.gb, 0, none⟩) (n + m + 3).toNat P.sz :: u21 :: Value.int .i64 c :: u23 :: u24 :: u25 :: u26 :: u27 :: u28 :: u29 :: Value.int .i64 k :: v31 :: v32 :: v33 :: v34 :: v35 :: v36 :: v37 :: u38 :: u39 :: u40 :: u41 :: u42 :: u43 :: u44 :: u45 :: u46 :: u47 :: u48 :: u49 :: u50 :: u51 :: u52 :: u53 :: u54 :: u55 :: u56 :: u57 :: u58 :: u59 :: u60 :: u61 :: u62 :: u63 :: u64 :: u65 :: u66 :: u67 :: u68 :: u69 :: u70 :: u71 :: u72 :: u73 :: u74 :: u75 :: u76 :: u77 :: u78 :: u79 :: u80 :: u81 :: u82 :: u83 :: u84 :: u85 :: u86 :: u87 :: u88 :: u89 :: u90 :: u91 :: u92 :: u93 :: u94 :: u95 :: u96 :: u97 :: u98 :: u99 :: u100 :: u101 :: u102 :: u103 :: u104 :: u105 :: u106 :: u107 :: u108 :: u109 :: u110 :: u111 :: u112 :: u113 :: u114 :: u115 :: u116 :: u117 :: u118 :: u119 :: u120 :: u121 :: u122 :: u123 :: u124 :: u125 :: u126 :: u127 :: u128 :: u129 :: u130 :: u131 :: u132 :: u133 :: u134 :: u135 :: u136 :: u137 :: u138 :: u139 :: u140 :: u141 :: u142 :: u143 :: u144 :: u145 :: u146 :: u147 :: u148 :: u149 :: u150 :: u151 :: u152 :: u153 :: u154 :: u155 :: u156 :: u157 :: u158 :: u159 :: u160 :: u161 :: u162 :: u163 :: u164 :: u165 :: u166 :: u167 :: u168 :: u169 :: u170 :: u171 :: u172 :: u173 :: u174 :: u175 :: u176 :: u177 :: u178 :: u179 :: u180 :: u181 :: u182 :: u183 :: u184 :: u185 :: u186 :: u187 :: u188 :: u189 :: u190 :: u191 :: u192 :: u193 :: u194 :: u195 :: u196 :: u197 :: u198 :: u199 :: u200 :: u201 :: u202 :: u203 :: u204 :: u205 :: u206 :: u207 :: u208 :: u209 :: u210 :: u211 :: u212 :: u213 :: u214 :: u215 :: u216 :: u217 :: u218 :: u219 :: u220 :: u221 :: u222 :: u223 :: u224 :: u225 :: u226 :: u227 :: u228 :: u229 :: u230 :: u231 :: u232 :: u233 :: u234 :: u235 :: u236 :: u237 :: u238 :: u239 :: u240 :: u241 :: u242 :: u243 :: u244 :: u245 :: u246 :: u247 :: u248 :: u249 :: u250 :: u251 :: u252 :: u253 :: u254 :: u255 :: u256 :: u257 :: u258 :: u259 :: u260 :: u261 :: u262 :: u263 :: u264 :: u265 :: u266 :: u267 :: u268 :: u269 :: u270 :: u271 :: u272 :: u273 :: v274 :: v275 :: v276 :: v277 :: v278 :: v279 :: v280 :: v281 :: v282 :: v283 :: v284 :: v285 :: v286 :: v287 :: v288 :: v289 :: v290 :: v291 :: v292 :: v293 :: v294 :: v295 :: v296 :: v297 :: v298 :: v299 :: v300 :: v301 :: v302 :: v303 :: v304 :: v305 :: v306 :: v307 :: v308 :: v309 :: v310 :: v311 :: v312 :: v313 :: v314 :: v315 :: v316 :: v317 :: v318 :: v319 :: v320 :: v321 :: v322 :: v323 :: v324 :: v325 :: v326 :: v327 :: v328 :: v329 :: v330 :: v331 :: v332 :: v333 :: v334 :: v335 :: v336 :: v337 :: v338 :: v339 :: v340 :: v341 :: v342 :: v343 :: v344 :: v345 :: v346 :: v347 :: v348 :: v349 :: v350 :: v351 :: v352 :: v353 :: v354 :: v355 :: v356 :: v357 :: v358 :: v359 :: v360 :: v361 :: v362 :: v363 :: v364 :: v365 :: v366 :: v367 :: v368 :: v369 :: v370 :: v371 :: v372 :: v373 :: v374 :: v375 :: v376 :: v377 :: v378 :: v379 :: v380 :: v381 :: v382 :: v383 :: v384 :: v385 :: v386 :: v387 :: v388 :: v389 :: v390 :: v391 :: v392 :: v393 :: v394 :: v395 :: v396 :: v397 :: v398 :: v399 :: v400 :: v401 :: v402 :: v403 :: v404 :: v405 :: v406 :: v407 :: v408 :: v409 :: v410 :: v411 :: v412 :: v413 :: v414 :: v415 :: v416 :: v417 :: v418 :: v419 :: v420 :: v421 :: v422 :: v423 :: v424 :: v425 :: v426 :: v427 :: v428 :: v429 :: v430 :: v431 :: v432 :: v433 :: v434 :: v435 :: v436 :: []), []⟩ w')
    (hret : ∀ (a : Act) (r : Int × Int × Int × Int) (B' : Int → Int) (st' : Int) (w' : World), (My.bwdK (eqf P a0 b0) n m c F k B).1 = some r → a.defers = [] → a.tmps.getD 10 undef = .int .i64 r.1 → a.tmps.getD 11 undef = .int .i64 r.2.1 → a.tmps.getD 12 undef = .int .i64 r.2.2.1 → a.tmps.getD 13 undef = .int .i64 r.2.2.2 → a.tmps.getD 14 undef = .bool true → MS P vd vi n m F B' st' w' → KeptBut [P.L, P.fb, P.gb] w0 w' → st - 1100 ≤ st' → st' ≤ st → Q .ret a w') :
    Code.wp Try.prog (Code.block 9 (blockAt 9 (Try.f33.body.getD .skip))) Q ⟨List.toArray (Value.pointer (some ⟨P.L, 0, none⟩) :: Value.int .i64 a0 :: Value.int .i64 a1 :: Value.int .i64 b0 :: Value.int .i64 b1 :: u5 :: u6 :: u7 :: u8 :: u9 :: u10 :: u11 :: u12 :: u13 :: u14 :: Value.int .i64 n :: Value.int .i64 m :: Value.int .i64 (n - m) :: Value.int .i64 (m + 1) :: Value.slice (some ⟨P.fb, 0, none⟩) (n + m + 3).toNat P.sz :: Value.slice (some ⟨P.gb, 0, none⟩) (n + m + 3).toNat P.sz :: u21 :: Value.int .i64 c :: u23 :: u24 :: u25 :: u26 :: u27 :: u28 :: u29 :: Value.int .i64 k :: u31 :: u32 :: u33 :: u34 :: u35 :: u36 :: u37 :: u38 :: u39 :: u40 :: u41 :: u42 :: u43 :: u44 :: u45 :: u46 :: u47 :: u48 :: u49 :: u50 :: u51 :: u52 :: u53 :: u54 :: u55 :: u56 :: u57 :: u58 :: u59 :: u60 :: u61 :: u62 :: u63 :: u64 :: u65 :: u66 :: u67 :: u68 :: u69 :: u70 :: u71 :: u72 :: u73 :: u74 :: u75 :: u76 :: u77 :: u78 :: u79 :: u80 :: u81 :: u82 :: u83 :: u84 :: u85 :: u86 :: u87 :: u88 :: u89 :: u90 :: u91 :: u92 :: u93 :: u94 :: u95 :: u96 :: u97 :: u98 :: u99 :: u100 :: u101 :: u102 :: u103 :: u104 :: u105 :: u106 :: u107 :: u108 :: u109 :: u110 :: u111 :: u112 :: u113 :: u114 :: u115 :: u116 :: u117 :: u118 :: u119 :: u120 :: u121 :: u122 :: u123 :: u124 :: u125 :: u126 :: u127 :: u128 :: u129 :: u130 :: u131 :: u132 :: u133 :: u134 :: u135 :: u136 :: u137 :: u138 :: u139 :: u140 :: u141 :: u142 :: u143 :: u144 :: u145 :: u146 :: u147 :: u148 :: u149 :: u150 :: u151 :: u152 :: u153 :: u154 :: u155 :: u156 :: u157 :: u158 :: u159 :: u160 :: u161 :: u162 :: u163 :: u164 :: u165 :: u166 :: u167 :: u168 :: u169 :: u170 :: u171 :: u172 :: u173 :: u174 :: u175 :: u176 :: u177 :: u178 :: u179 :: u180 :: u181 :: u182 :: u183 :: u184 :: u185 :: u186 :: u187 :: u188 :: u189 :: u190 :: u191 :: u192 :: u193 :: u194 :: u195 :: u196 :: u197 :: u198 :: u199 :: u200 :: u201 :: u202 :: u203 :: u204 :: u205 :: u206 :: u207 :: u208 :: u209 :: u210 :: u211 :: u212 :: u213 :: u214 :: u215 :: u216 :: u217 :: u218 :: u219 :: u220 :: u221 :: u222 :: u223 :: u224 :: u225 :: u226 :: u227 :: u228 :: u229 :: u230 :: u231 :: u232 :: u233 :: u234 :: u235 :: u236 :: u237 :: u238 :: u239 :: u240 :: u241 :: u242 :: u243 :: u244 :: u245 :: u246 :: u247 :: u248 :: u249 :: u250 :: u251 :: u252 :: u253 :: u254 :: u255 :: u256 :: u257 :: u258 :: u259 :: u260 :: u261 :: u262 :: u263 :: u264 :: u265 :: u266 :: u267 :: u268 :: u269 :: u270 :: u271 :: u272 :: u273 :: u274 :: u275 :: u276 :: u277 :: u278 :: u279 :: u280 :: u281 :: u282 :: u283 :: u284 :: u285 :: u286 :: u287 :: u288 :: u289 :: u290 :: u291 :: u292 :: u293 :: u294 :: u295 :: u296 :: u297 :: u298 :: u299 :: u300 :: u301 :: u302 :: u303 :: u304 :: u305 :: u306 :: u307 :: u308 :: u309 :: u310 :: u311 :: u312 :: u313 :: u314 :: u315 :: u316 :: u317 :: u318 :: u319 :: u320 :: u321 :: u322 :: u323 :: u324 :: u325 :: u326 :: u327 :: u328 :: u329 :: u330 :: u331 :: u332 :: u333 :: u334 :: u335 :: u336 :: u337 :: u338 :: u339 :: u340 :: u341 :: u342 :: u343 :: u344 :: u345 :: u346 :: u347 :: u348 :: u349 :: u350 :: u351 :: u352 :: u353 :: u354 :: u355 :: u356 :: u357 :: u358 :: u359 :: u360 :: u361 :: u362 :: u363 :: u364 :: u365 :: u366 :: u367 :: u368 :: u369 :: u370 :: u371 :: u372 :: u373 :: u374 :: u375 :: u376 :: u377 :: u378 :: u379 :: u380 :: u381 :: u382 :: u383 :: u384 :: u385 :: u386 :: u387 :: u388 :: u389 :: u390 :: u391 :: u392 :: u393 :: u394 :: u395 :: u396 :: u397 :: u398 :: u399 :: u400 :: u401 :: u402 :: u403 :: u404 :: u405 :: u406 :: u407 :: u408 :: u409 :: u410 :: u411 :: u412 :: u413 :: u414 :: u415 :: u416 :: u417 :: u418 :: u419 :: u420 :: u421 :: u422 :: u423 :: u424 :: u425 :: u426 :: u427 :: u428 :: u429 :: u430 :: u431 :: u432 :: u433 :: u434 :: u435 :: u436 :: []), []⟩ w := by
  obtain ⟨n1, m1, n2, m2, ha, hb, hal, hbl, hla, hlb, hsz⟩ := id hN
  conv => arg 2; arg 2; whnf
  have HX := hide hnext
  have HR := hide hret
  clear hnext hret
  by_cases hp : (k - (n - m) + c) % 2 ≠ 0
  · have t1 : ((k - (n - m) + c) % 2 != 0) = true := by simpa using hp
    have hE : Hid (My.bwdK (eqf P a0 b0) n m c F k B = (none, B)) := by show _ = _; unfold My.bwdK; rw [if_pos hp]
    clear HR hp
    go_wp2
    exact HX.out _ _ _ _ _ _ _ _ _ _ _ _ _ _ _ _ _ _ _ _ _ _ _ _ _ _ _ _ _ _ _ _ _ _ _ _ _ _ _ _ _ _ _ _ _ _ _ _ _ _ _ _ _ _ _ _ _ _ _ _ _ _ _ _ _ _ _ _ _ _ _ _ _ _ _ _ _ _ _ _ _ _ _ _ _ _ _ _ _ _ _ _ _ _ _ _ _ _ _ _ _ _ _ _ _ _ _ _ _ _ _ _ _ _ _ _ _ _ _ _ _ _ _ _ _ _ _ _ _ _ _ _ _ _ _ _ _ _ _ _ _ _ _ _ _ _ _ _ _ _ _ _ _ _ _ _ _ _ _ _ _ _ _ _ _ _ _ _ _ _ _ _ (by rw [hE.out]) (by rw [hE.out]; exact hM) (by rw [hE.out]; exact hF) hK (by omega) (by omega)
  · have t1 : ((k - (n - m) + c) % 2 != 0) = false := by simpa using hp
    obtain ⟨c4, c5⟩ := hM.steps
    have HC : Hid (My.bwdK (eqf P a0 b0) n m c F k B = if n < My.candB n c (n - m) B k then (none, B) else
        (if (n - m) % 2 = 0 ∧ -c ≤ k ∧ k ≤ c ∧ My.retTo (eqf P a0 b0) k (My.candB n c (n - m) B k) ≤ F k
          then some (My.retTo (eqf P a0 b0) k (My.candB n c (n - m) B k), My.retTo (eqf P a0 b0) k (My.candB n c (n - m) B k) - k, My.candB n c (n - m) B k, My.candB n c (n - m) B k - k) else none,
         if B k < 0 ∨ My.retTo (eqf P a0 b0) k (My.candB n c (n - m) B k) < B k then My.upd B k (My.retTo (eqf P a0 b0) k (My.candB n c (n - m) B k)) else B)) := by show _ = _; unfold My.bwdK; rw [if_neg hp]
    clear hp
    go_upto_region 45 with fail
    go_cut [] from 274 to 289 (fun w' => MS P vd vi n m F B (st - 1) w' ∧ KeptBut [P.L, P.fb, P.gb] w0 w')
    case first =>
      have hM2 := hM.setSteps (st - 1)
      have hK2 := hK.setCell (p := ⟨P.L, 6, none⟩) (by simp) (.int .i64 (st - 1))
      clear hM hK
      go_wp2_with fail
      go_meet
      case rel => exact ⟨hM2, hK2⟩
    case rest =>
      clear c4 c5 hM hK
      obtain ⟨hM, hK⟩ := hcut
      obtain ⟨c4, c5⟩ := hM.steps
      go_upto_if 298 with fail
      clear c4 c5
      go_cut [31] from 274 to 299 (fun X w' => w' = wc ∧ X = .int .i64 (if c = 0 then n else n + 1))
      case first =>
        by_cases hc : c = 0
        · have hc' : (c == 0) = true := by simpa using hc
          have H := hide hc
          clear hc
          go_wp2_with fail
          go_meet
          case rel => exact ⟨rfl, by rw [if_pos H.out]⟩
        · have hc' : (c == 0) = false := by simpa using hc
          have H := hide hc
          clear hc
          go_wp2_with fail
          go_meet
          case rel => exact ⟨rfl, by rw [if_neg H.out]⟩
      case rest =>
        obtain ⟨rfl, rfl⟩ := hcut
        have hx0 : n ≤ (if c = 0 then n else n + 1) ∧ (if c = 0 then n else n + 1) ≤ n + 1 := by split <;> omega
        have HD : Hid (My.candB n c (n - m) B k = if (n - m) - c < k ∧ 0 ≤ B (k - 1) ∧ 0 < B (k - 1) - (k - 1) then min (if k < (n - m) + c ∧ 0 < B (k + 1) then B (k + 1) - 1 else if c = 0 then n else n + 1) (B (k - 1)) else if k < (n - m) + c ∧ 0 < B (k + 1) then B (k + 1) - 1 else if c = 0 then n else n + 1) := rfl
        generalize (if c = 0 then n else n + 1) = x0 at *
        obtain ⟨x00, x01⟩ := hx0
        have fb1 := hF.lo (k + 1)
        have fb1' := hF.hi (by omega) (k + 1)
        have fb2 := hF.lo (k - 1)
        have fb2' := hF.hi (by omega) (k - 1)
        go_upto_if 304 with fail
        go_cut [31, 32] from 274 to 315 (fun X _ w' => w' = wc ∧ X = .int .i64 (if k < (n - m) + c ∧ 0 < B (k + 1) then B (k + 1) - 1 else x0))
        case first =>
          by_cases h1 : k < (n - m) + c
          · obtain ⟨d1, d2⟩ := hM.gcell (k := k + 1) (by omega) (by omega)
            by_cases h2 : 0 < B (k + 1)
            · have H := hide (And.intro h1 h2)
              go_wp2_with fail
              go_meet
              case rel => exact ⟨rfl, by rw [if_pos H.out]⟩
            · have H := hide (fun h : k < (n - m) + c ∧ 0 < B (k + 1) => h2 h.2)
              go_wp2_with fail
              go_meet
              case rel => exact ⟨rfl, by rw [if_neg H.out]⟩
          · have H := hide (fun h : k < (n - m) + c ∧ 0 < B (k + 1) => h1 h.1)
            go_wp2_with fail
            go_meet
            case rel => exact ⟨rfl, by rw [if_neg H.out]⟩
        case rest =>
          obtain ⟨rfl, rfl⟩ := hcut
          have hx1 : 0 ≤ (if k < (n - m) + c ∧ 0 < B (k + 1) then B (k + 1) - 1 else x0) ∧ (if k < (n - m) + c ∧ 0 < B (k + 1) then B (k + 1) - 1 else x0) ≤ n + 1 := by split <;> omega
          generalize (if k < (n - m) + c ∧ 0 < B (k + 1) then B (k + 1) - 1 else x0) = x1 at *
          obtain ⟨x10, x11⟩ := hx1
          go_upto_if 320 with fail
          go_cut [31, 33] from 274 to 339 (fun X _ w' => w' = wc ∧ X = .int .i64 (My.candB n c (n - m) B k))
          case first =>
            by_cases h1 : (n - m) - c < k
            · obtain ⟨d1, d2⟩ := hM.gcell (k := k - 1) (by omega) (by omega)
              by_cases h2 : 0 ≤ B (k - 1)
              · by_cases h3 : 0 < B (k - 1) - (k - 1)
                · have H := hide (And.intro h1 (And.intro h2 h3))
                  rcases Int.lt_trichotomy x1 (B (k - 1)) with h4 | h4 | h4
                  · have HE : Hid (My.candB n c (n - m) B k = x1) := by show _ = _; rw [HD.out, if_pos H.out]; omega
                    clear HD
                    go_wp2_with fail
                    go_meet
                    case rel => exact ⟨rfl, by rw [HE.out]⟩
                  · have HE : Hid (My.candB n c (n - m) B k = B (k - 1)) := by show _ = _; rw [HD.out, if_pos H.out]; omega
                    clear HD
                    subst h4
                    go_wp2_with fail
                    all_goals go_meet
                    all_goals exact ⟨rfl, by rw [HE.out]⟩
                  · have HE : Hid (My.candB n c (n - m) B k = B (k - 1)) := by show _ = _; rw [HD.out, if_pos H.out]; omega
                    clear HD
                    go_wp2_with fail
                    go_meet
                    case rel => exact ⟨rfl, by rw [HE.out]⟩
                · have HE : Hid (My.candB n c (n - m) B k = x1) := by show _ = _; rw [HD.out, if_neg (fun h => h3 h.2.2)]
                  clear HD
                  go_wp2_with fail
                  go_meet
                  case rel => exact ⟨rfl, by rw [HE.out]⟩
              · have HE : Hid (My.candB n c (n - m) B k = x1) := by show _ = _; rw [HD.out, if_neg (fun h => h2 h.2.1)]
                clear HD
                go_wp2_with fail
                go_meet
                case rel => exact ⟨rfl, by rw [HE.out]⟩
            · have HE : Hid (My.candB n c (n - m) B k = x1) := by show _ = _; rw [HD.out, if_neg (fun h => h1 h.1)]
              clear HD
              go_wp2_with fail
              go_meet
              case rel => exact ⟨rfl, by rw [HE.out]⟩
          case rest =>
            obtain ⟨rfl, rfl⟩ := hcut
            clear HD x00 x01 x10 x11 fb1 fb1' fb2 fb2'
            by_cases hx : n < My.candB n c (n - m) B k
            · have hE : Hid (My.bwdK (eqf P a0 b0) n m c F k B = (none, B)) := by show _ = _; rw [HC.out, if_pos hx]
              clear HC HR
              go_wp2
              exact HX.out _ _ _ _ _ _ _ _ _ _ _ _ _ _ _ _ _ _ _ _ _ _ _ _ _ _ _ _ _ _ _ _ _ _ _ _ _ _ _ _ _ _ _ _ _ _ _ _ _ _ _ _ _ _ _ _ _ _ _ _ _ _ _ _ _ _ _ _ _ _ _ _ _ _ _ _ _ _ _ _ _ _ _ _ _ _ _ _ _ _ _ _ _ _ _ _ _ _ _ _ _ _ _ _ _ _ _ _ _ _ _ _ _ _ _ _ _ _ _ _ _ _ _ _ _ _ _ _ _ _ _ _ _ _ _ _ _ _ _ _ _ _ _ _ _ _ _ _ _ _ _ _ _ _ _ _ _ _ _ _ _ _ _ _ _ _ _ _ _ _ _ _ (by rw [hE.out]) (by rw [hE.out]; exact hM) (by rw [hE.out]; exact hF) hK (by omega) (by omega)
            · have hcb := hF.candB (by omega) (by omega) hk3 hk4 hx
              have hx' : My.candB n c (n - m) B k ≤ n := by omega
              have HG := HC.out
              rw [if_neg hx] at HG
              clear HC hx
              generalize My.candB n c (n - m) B k = X at *
              obtain ⟨b1', b2', b3'⟩ := hcb
              obtain ⟨y1, y2, y3⟩ := retTo_bounds (eqf P a0 b0) (n := n) (m := m) b1' b2' hx' b3'
              have HC := hide HG
              clear HG
              go_upto_block 10 with fail
              go_wp2_with fail
              refine ret_wp P vd vi a0 a1 b0 b1 n m c k X (st - 1) F B wc w0 _ _ _ _ _ _ _ _ _ _ _ _ _ _ _ _ _ _ _ _ _ _ _ _ _ _ _ _ _ _ _ _ _ _ _ _ _ _ _ _ _ _ _ _ _ _ _ _ _ _ _ _ _ _ _ _ _ _ _ _ _ _ _ _ _ _ _ _ _ _ _ _ _ _ _ _ _ _ _ _ _ _ _ _ _ _ _ _ _ _ _ _ _ _ _ _ _ _ _ _ _ _ _ _ _ _ _ _ _ _ _ _ _ _ _ _ _ _ _ _ _ _ _ _ _ _ _ _ _ _ _ _ _ _ _ _ _ _ _ _ _ _ _ _ _ _ _ _ _ _ _ _ _ _ _ _ _ _ _ _ _ _ _ _ _ _ _ _ _ _ _ _ _ _ _ _ _ _ _ _ _ _ _ _ _ _ _ _ _ _ _ _ _ _ _ _ _ _ _ _ _ _ _ _ _ _ _ _ _ _ _ _ _ _ _ _ _ _ _ _ _ _ _ _ _ _ _ _ _ _ _ _ _ _ _ _ _ _ _ _ _ _ _ _ _ _ _ _ _ _ _ _ _ _ _ _ _ _ _ _ _ _ _ _ _ _ _ _ _ _ _ _ _ _ _ _ _ _ _ _ _ _ _ _ _ _ _ _ _ _ _ _ _ _ _ _ _ _ _ _ _ _ _ _ _ _ _ _ _ _ _ _ _ _ _ _ _ _ _ _ _ _ _ _ _ _ _ _ _ _ _ _ _ _ _ _ _ _ _ _ _ _ _ _ _ _ _ _ _ _ _ _ _ _ _ _ _ _ _ _ _ _ _ _ _ _ _ _ _ _ _ _ _ _ _ _ _ _ _ _ _ _ _ _ _ _ _ _ _ _ _ _ _ _ _ _ _ _ _ _ _ _ _ _ _ _ _ _ _ _ _ _ _ _ _ _ _ _ _ _ _ _ _ _ hN b1' hx' b2' b3' (by omega) (by omega) hM hK ?_
              clear hM hK
              intro v347 v348 v349 v350 v351 v352 v353 v354 v355 v356 v357 v358 v359 v360 v361 v362 v363 v364 v365 v366 v367 v368 v369 v370 v371 v372 v373 v374 v375 v376 v377 v378 v379 v380 v381 v382 v383 v384 v385 v386 v387 v388 s1 w1 hM hK hs1 hs2
              have HG := HC.out
              clear HC
              generalize My.retTo (eqf P a0 b0) k X = Y at *
              have hF' : FB n m (if B k < 0 ∨ Y < B k then My.upd B k Y else B) := by
                split
                · exact hF.upd (by omega) (by omega) (by omega) (by omega)
                · exact hF
              have fk1 := hF.lo k
              have fk2 := hF.hi (by omega) k
              go_upto_region 64 with fail
              go_cut [36] from 274 to 394 (fun X w' => w' = w1 ∧ X = .int .i64 (B k))
              case first =>
                obtain ⟨d1, d2⟩ := hM.gcell (k := k) (by omega) (by omega)
                go_wp2_with fail
                go_meet
                case rel => exact ⟨rfl, rfl⟩
              case rest =>
                obtain ⟨rfl, rfl⟩ := hcut
                go_upto_region 65 with fail
                go_cut [401] from 274 to 400 (fun b w' => w' = wc ∧ b = .bool (decide (B k < 0 ∨ Y < B k)))
                case first =>
                  by_cases q1 : B k < 0
                  · have HB : Hid (decide (B k < 0 ∨ Y < B k) = true) := decide_eq_true (.inl q1)
                    go_wp2_with fail
                    go_meet
                    case rel => exact ⟨rfl, by rw [HB.out]⟩
                  · by_cases q2 : Y < B k
                    · have HB : Hid (decide (B k < 0 ∨ Y < B k) = true) := decide_eq_true (.inr q2)
                      go_wp2_with fail
                      go_meet
                      case rel => exact ⟨rfl, by rw [HB.out]⟩
                    · have HB : Hid (decide (B k < 0 ∨ Y < B k) = false) := decide_eq_false (fun h => by rcases h with h | h; exact q1 h; exact q2 h)
                      go_wp2_with fail
                      go_meet
                      case rel => exact ⟨rfl, by rw [HB.out]⟩
                case rest =>
                  obtain ⟨rfl, rfl⟩ := hcut
                  go_upto_if 401 with fail
                  go_cut [] from 274 to 407 (fun w' => MS P vd vi n m F (if B k < 0 ∨ Y < B k then My.upd B k Y else B) s1 w' ∧ KeptBut [P.L, P.fb, P.gb] w0 w')
                  case first =>
                    by_cases q : B k < 0 ∨ Y < B k
                    · have H := hide q
                      obtain ⟨d1, d2⟩ := hM.gcell (k := k) (by omega) (by omega)
                      have hM2 := hM.setB (k := k) (by omega) (by omega) Y
                      have hK2 := hK.setCell (p := ⟨P.gb, (k + (m + 1)).toNat, none⟩) (by simp) (.int .i64 Y)
                      rw [decide_eq_true q]
                      clear q hM hK
                      go_wp2_with fail
                      go_meet
                      case rel => rw [if_pos H.out]; exact ⟨hM2, hK2⟩
                    · have H := hide q
                      rw [decide_eq_false q]
                      clear q
                      go_wp2_with fail
                      go_meet
                      case rel => rw [if_neg H.out]; exact ⟨hM, hK⟩
                  case rest =>
                    clear hM hK
                    obtain ⟨hM, hK⟩ := hcut
                    generalize (if B k < 0 ∨ Y < B k then My.upd B k Y else B) = B' at *
                    have HC := hide HG
                    clear HG
                    have tm := tmod_two' (n - m)
                    by_cases h1 : (n - m) % 2 = 0
                    rotate_left
                    · rw [decide_eq_false h1] at tm
                      have hno : ¬ ((n - m) % 2 = 0 ∧ -c ≤ k ∧ k ≤ c ∧ Y ≤ F k) := fun h => h1 h.1
                      have hE : Hid (My.bwdK (eqf P a0 b0) n m c F k B = (none, B')) := by show _ = _; rw [HC.out, if_neg hno]
                      clear HC HR
                      go_wp2
                      exact HX.out _ _ _ _ _ _ _ _ _ _ _ _ _ _ _ _ _ _ _ _ _ _ _ _ _ _ _ _ _ _ _ _ _ _ _ _ _ _ _ _ _ _ _ _ _ _ _ _ _ _ _ _ _ _ _ _ _ _ _ _ _ _ _ _ _ _ _ _ _ _ _ _ _ _ _ _ _ _ _ _ _ _ _ _ _ _ _ _ _ _ _ _ _ _ _ _ _ _ _ _ _ _ _ _ _ _ _ _ _ _ _ _ _ _ _ _ _ _ _ _ _ _ _ _ _ _ _ _ _ _ _ _ _ _ _ _ _ _ _ _ _ _ _ _ _ _ _ _ _ _ _ _ _ _ _ _ _ _ _ _ _ _ _ _ _ _ _ _ _ _ _ _ (by rw [hE.out]) (by rw [hE.out]; exact hM) (by rw [hE.out]; exact hF') hK (by omega) (by omega)
                    rw [decide_eq_true h1] at tm
                    have H1 := hide h1
                    clear h1
                    by_cases h2 : -c ≤ k
                    rotate_left
                    · have hno : ¬ ((n - m) % 2 = 0 ∧ -c ≤ k ∧ k ≤ c ∧ Y ≤ F k) := fun h => h2 h.2.1
                      have hE : Hid (My.bwdK (eqf P a0 b0) n m c F k B = (none, B')) := by show _ = _; rw [HC.out, if_neg hno]
                      clear HC HR
                      go_wp2
                      exact HX.out _ _ _ _ _ _ _ _ _ _ _ _ _ _ _ _ _ _ _ _ _ _ _ _ _ _ _ _ _ _ _ _ _ _ _ _ _ _ _ _ _ _ _ _ _ _ _ _ _ _ _ _ _ _ _ _ _ _ _ _ _ _ _ _ _ _ _ _ _ _ _ _ _ _ _ _ _ _ _ _ _ _ _ _ _ _ _ _ _ _ _ _ _ _ _ _ _ _ _ _ _ _ _ _ _ _ _ _ _ _ _ _ _ _ _ _ _ _ _ _ _ _ _ _ _ _ _ _ _ _ _ _ _ _ _ _ _ _ _ _ _ _ _ _ _ _ _ _ _ _ _ _ _ _ _ _ _ _ _ _ _ _ _ _ _ _ _ _ _ _ _ _ (by rw [hE.out]) (by rw [hE.out]; exact hM) (by rw [hE.out]; exact hF') hK (by omega) (by omega)
                    by_cases h3 : k ≤ c
                    rotate_left
                    · have hno : ¬ ((n - m) % 2 = 0 ∧ -c ≤ k ∧ k ≤ c ∧ Y ≤ F k) := fun h => h3 h.2.2.1
                      have hE : Hid (My.bwdK (eqf P a0 b0) n m c F k B = (none, B')) := by show _ = _; rw [HC.out, if_neg hno]
                      clear HC HR
                      go_wp2
                      exact HX.out _ _ _ _ _ _ _ _ _ _ _ _ _ _ _ _ _ _ _ _ _ _ _ _ _ _ _ _ _ _ _ _ _ _ _ _ _ _ _ _ _ _ _ _ _ _ _ _ _ _ _ _ _ _ _ _ _ _ _ _ _ _ _ _ _ _ _ _ _ _ _ _ _ _ _ _ _ _ _ _ _ _ _ _ _ _ _ _ _ _ _ _ _ _ _ _ _ _ _ _ _ _ _ _ _ _ _ _ _ _ _ _ _ _ _ _ _ _ _ _ _ _ _ _ _ _ _ _ _ _ _ _ _ _ _ _ _ _ _ _ _ _ _ _ _ _ _ _ _ _ _ _ _ _ _ _ _ _ _ _ _ _ _ _ _ _ _ _ _ _ _ _ (by rw [hE.out]) (by rw [hE.out]; exact hM) (by rw [hE.out]; exact hF') hK (by omega) (by omega)
                    obtain ⟨g1, g2⟩ := hM.fcell (k := k) (by omega) (by omega)
                    by_cases h4 : Y ≤ F k
                    rotate_left
                    · have hno : ¬ ((n - m) % 2 = 0 ∧ -c ≤ k ∧ k ≤ c ∧ Y ≤ F k) := fun h => h4 h.2.2.2
                      have hE : Hid (My.bwdK (eqf P a0 b0) n m c F k B = (none, B')) := by show _ = _; rw [HC.out, if_neg hno]
                      clear HC HR
                      go_wp2
                      exact HX.out _ _ _ _ _ _ _ _ _ _ _ _ _ _ _ _ _ _ _ _ _ _ _ _ _ _ _ _ _ _ _ _ _ _ _ _ _ _ _ _ _ _ _ _ _ _ _ _ _ _ _ _ _ _ _ _ _ _ _ _ _ _ _ _ _ _ _ _ _ _ _ _ _ _ _ _ _ _ _ _ _ _ _ _ _ _ _ _ _ _ _ _ _ _ _ _ _ _ _ _ _ _ _ _ _ _ _ _ _ _ _ _ _ _ _ _ _ _ _ _ _ _ _ _ _ _ _ _ _ _ _ _ _ _ _ _ _ _ _ _ _ _ _ _ _ _ _ _ _ _ _ _ _ _ _ _ _ _ _ _ _ _ _ _ _ _ _ _ _ _ _ _ (by rw [hE.out]) (by rw [hE.out]; exact hM) (by rw [hE.out]; exact hF') hK (by omega) (by omega)
                    have hyes : (n - m) % 2 = 0 ∧ -c ≤ k ∧ k ≤ c ∧ Y ≤ F k := ⟨H1.out, h2, h3, h4⟩
                    have hE : Hid ((My.bwdK (eqf P a0 b0) n m c F k B).1 = some (Y, Y - k, X, X - k)) := by show _ = _; rw [HC.out, if_pos hyes]
                    clear HC HX hyes
                    go_wp2
                    exact HR.out _ _ _ _ _ hE.out rfl rfl rfl rfl rfl rfl hM hK (by omega) (by omega)
end Go.Proofs.Qxb6601687a

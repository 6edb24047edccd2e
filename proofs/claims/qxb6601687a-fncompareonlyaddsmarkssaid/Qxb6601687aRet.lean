import Derived.Test.Qxb6601687aAdv
import Derived.Deep.CutBlock
import Derived.Deep.LoopGhost
import Derived.Deep.QuietTactic
import Derived.BigQuiet
namespace Go.Proofs.Qxb6601687a
open Go.ChangeShapes Go.WideShapes Go.ChangeAt Go.RowKit

set_option maxRecDepth 100000 in
set_option maxHeartbeats 4000000 in
/-- The backward run of equal lines. -/
theorem ret_wp (P : Lay) (vd vi : Value) (a0 a1 b0 b1 n m c k x st : Int) (F B : Int → Int) (w w0 : World) (Q0 : Exit → Act → World → Prop) (u5 u6 u7 u8 u9 u10 u11 u12 u13 u14 u21 u23 u24 u25 u26 u27 u28 u29 u32 u33 u34 u35 u36 u37 u38 u39 u40 u41 u42 u43 u44 u45 u46 u47 u48 u49 u50 u51 u52 u53 u54 u55 u56 u57 u58 u59 u60 u61 u62 u63 u64 u65 u66 u67 u68 u69 u70 u71 u72 u73 u74 u75 u76 u77 u78 u79 u80 u81 u82 u83 u84 u85 u86 u87 u88 u89 u90 u91 u92 u93 u94 u95 u96 u97 u98 u99 u100 u101 u102 u103 u104 u105 u106 u107 u108 u109 u110 u111 u112 u113 u114 u115 u116 u117 u118 u119 u120 u121 u122 u123 u124 u125 u126 u127 u128 u129 u130 u131 u132 u133 u134 u135 u136 u137 u138 u139 u140 u141 u142 u143 u144 u145 u146 u147 u148 u149 u150 u151 u152 u153 u154 u155 u156 u157 u158 u159 u160 u161 u162 u163 u164 u165 u166 u167 u168 u169 u170 u171 u172 u173 u174 u175 u176 u177 u178 u179 u180 u181 u182 u183 u184 u185 u186 u187 u188 u189 u190 u191 u192 u193 u194 u195 u196 u197 u198 u199 u200 u201 u202 u203 u204 u205 u206 u207 u208 u209 u210 u211 u212 u213 u214 u215 u216 u217 u218 u219 u220 u221 u222 u223 u224 u225 u226 u227 u228 u229 u230 u231 u232 u233 u234 u235 u236 u237 u238 u239 u240 u241 u242 u243 u244 u245 u246 u247 u248 u249 u250 u251 u252 u253 u254 u255 u256 u257 u258 u259 u260 u261 u262 u263 u264 u265 u266 u267 u268 u269 u270 u271 u272 u273 u274 u275 u276 u277 u278 u279 u280 u281 u282 u283 u284 u285 u286 u287 u288 u289 u290 u291 u292 u293 u294 u295 u296 u297 u298 u299 u300 u301 u302 u303 u304 u305 u306 u307 u308 u309 u310 u311 u312 u313 u314 u315 u316 u317 u318 u319 u320 u321 u322 u323 u324 u325 u326 u327 u328 u329 u330 u331 u332 u333 u334 u335 u336 u337 u338 u339 u340 u341 u342 u343 u344 u345 u346 u347 u348 u349 u350 u351 u352 u353 u354 u355 u356 u357 u358 u359 u360 u361 u362 u363 u364 u365 u366 u367 u368 u369 u370 u371 u372 u373 u374 u375 u376 u377 u378 u379 u380 u381 u382 u383 u384 u385 u386 u387 u388 u389 u390 u391 u392 u393 u394 u395 u396 u397 u398 u399 u400 u401 u402 u403 u404 u405 u406 u407 u408 u409 u410 u411 u412 u413 u414 u415 u416 u417 u418 u419 u420 u421 u422 u423 u424 u425 u426 u427 u428 u429 u430 u431 u432 u433 u434 u435 u436 : Value)
    (hN : Nums P a0 b0 n m) (hx0 : 0 ≤ x) (hx1 : x ≤ n) (hy0 : 0 ≤ x - k) (hy1 : x - k ≤ m) (hst : 2048 ≤ st) (hst2 : st ≤ 9223372036854775807)
    (hM : MS P vd vi n m F B st w) (hK : KeptBut [P.L, P.fb, P.gb] w0 w)
    (hexit : ∀ (v347 v348 v349 v350 v351 v352 v353 v354 v355 v356 v357 v358 v359 v360 v361 v362 v363 v364 v365 v366 v367 v368 v369 v370 v371 v372 v373 v374 v375 v376 v377 v378 v379 v380 v381 v382 v383 v384 v385 v386 v387 v388 : Value) (st' : Int) (w' : World), MS P vd vi n m F B st' w' → KeptBut [P.L, P.fb, P.gb] w0 w' → st - n ≤ st' → st' ≤ st → Q0 (.exit 10) ⟨List.toArray (Value.pointer (some ⟨P.L, 0, none⟩) :: Value.int .i64 a0 :: Value.int .i64 a1 :: Value.int .i64 b0 :: Value.int .i64 b1 :: u5 :: u6 :: u7 :: u8 :: u9 :: u10 :: u11 :: u12 :: u13 :: u14 :: Value.int .i64 n :: Value.int .i64 m :: Value.int .i64 (n - m) :: Value.int .i64 (m + 1) :: Value.slice (some ⟨P.fb, 0, none⟩) (n + m + 3).toNat P.sz :: Value.slice (some ⟨P.gb, 0, none⟩) (n + m + 3).toNat P.sz :: u21 :: Value.int .i64 c :: u23 :: u24 :: u25 :: u26 :: u27 :: u28 :: u29 :: Value.int .i64 k :: Value.int .i64 (My.retTo (eqf P a0 b0) k x) :: u32 :: u33 :: u34 :: u35 :: u36 :: u37 :: u38 :: u39 :: u40 :: u41 :: u42 :: u43 :: u44 :: u45 :: u46 :: u47 :: u48 :: u49 :: u50 :: u51 :: u52 :: u53 :: u54 :: u55 :: u56 :: u57 :: u58 :: u59 :: u60 :: u61 :: u62 :: u63 :: u64 :: u65 :: u66 :: u67 :: u68 :: u69 :: u70 :: u71 :: u72 :: u73 :: u74 :: u75 :: u76 :: u77 :: u78 :: u79 :: u80 :: u81 :: u82 :: u83 :: u84 :: u85 :: u86 :: u87 :: u88 :: u89 :: u90 :: u91 :: u92 :: u93 :: u94 :: u95 :: u96 :: u97 :: u98 :: u99 :: u100 :: u101 :: u102 :: u103 :: u104 :: u105 :: u106 :: u107 :: u108 :: u109 :: u110 :: u111 :: u112 :: u113 :: u114 :: u115 :: u116 :: u117 :: u118 :: u119 :: u120 :: u121 :: u122 :: u123 :: u124 :: u125 :: u126 :: u127 :: u128 :: u129 :: u130 :: u131 :: u132 :: u133 :: u134 :: u135 :: u136 :: u137 :: u138 :: u139 :: u140 :: u141 :: u142 :: u143 :: u144 :: u145 :: u146 :: u147 :: u148 :: u149 :: u150 :: u151 :: u152 :: u153 :: u154 :: u155 :: u156 :: u157 :: u158 :: u159 :: u160 :: u161 :: u162 :: u163 :: u164 :: u165 :: u166 :: u167 :: u168 :: u169 :: u170 :: u171 :: u172 :: u173 :: u174 :: u175 :: u176 :: u177 :: u178 :: u179 :: u180 :: u181 :: u182 :: u183 :: u184 :: u185 :: u186 :: u187 :: u188 :: u189 :: u190 :: u191 :: u192 :: u193 :: u194 :: u195 :: u196 :: u197 :: u198 :: u199 :: u200 :: u201 :: u202 :: u203 :: u204 :: u205 :: u206 :: u207 :: u208 :: u209 :: u210 :: u211 :: u212 :: u213 :: u214 :: u215 :: u216 :: u217 :: u218 :: u219 :: u220 :: u221 :: u222 :: u223 :: u224 :: u225 :: u226 :: u227 :: u228 :: u229 :: u230 :: u231 :: u232 :: u233 :: u234 :: u235 :: u236 :: u237 :: u238 :: u239 :: u240 :: u241 :: u242 :: u243 :: u244 :: u245 :: u246 :: u247 :: u248 :: u249 :: u250 :: u251 :: u252 :: u253 :: u254 :: u255 :: u256 :: u257 :: u258 :: u259 :: u260 :: u261 :: u262 :: u263 :: u264 :: u265 :: u266 :: u267 :: u268 :: u269 :: u270 :: u271 :: u272 :: u273 :: u274 :: u275 :: u276 :: u277 :: u278 :: u279 :: u280 :: u281 :: u282 :: u283 :: u284 :: u285 :: u286 :: u287 :: u288 :: u289 :: u290 :: u291 :: u292 :: u293 :: u294 :: u295 :: u296 :: u297 :: u298 :: u299 :: u300 :: u301 :: u302 :: u303 :: u304 :: u305 :: u306 :: u307 :: u308 :: u309 :: u310 :: u311 :: u312 :: u313 :: u314 :: u315 :: u316 :: u317 :: u318 :: u319 :: u320 :: u321 :: u322 :: u323 :: u324 :: u325 :: u326 :: u327 :: u328 :: u329 :: u330 :: u331 :: u332 :: u333 :: u334 :: u335 :: u336 :: u337 :: u338 :: u339 :: u340 :: u341 :: u342 :: u343 :: u344 :: u345 :: u346 :: v347 :: v348 :: v349 :: v350 :: v351 :: v352 :: v353 :: v354 :: v355 :: v356 :: v357 :: v358 :: v359 :: v360 :: v361 :: v362 :: v363 :: v364 :: v365 :: v366 :: v367 :: v368 :: v369 :: v370 :: v371 :: v372 :: v373 :: v374 :: v375 :: v376 :: v377 :: v378 :: v379 :: v380 :: v381 :: v382 :: v383 :: v384 :: v385 :: v386 :: v387 :: v388 :: u389 :: u390 :: u391 :: u392 :: u393 :: u394 :: u395 :: u396 :: u397 :: u398 :: u399 :: u400 :: u401 :: u402 :: u403 :: u404 :: u405 :: u406 :: u407 :: u408 :: u409 :: u410 :: u411 :: u412 :: u413 :: u414 :: u415 :: u416 :: u417 :: u418 :: u419 :: u420 :: u421 :: u422 :: u423 :: u424 :: u425 :: u426 :: u427 :: u428 :: u429 :: u430 :: u431 :: u432 :: u433 :: u434 :: u435 :: u436 :: []), []⟩ w') :
    Code.wp Try.prog (Code.loop ((loopsOf (Try.f33.body.getD .skip)).getD 5 .skip)) Q0 ⟨List.toArray (Value.pointer (some ⟨P.L, 0, none⟩) :: Value.int .i64 a0 :: Value.int .i64 a1 :: Value.int .i64 b0 :: Value.int .i64 b1 :: u5 :: u6 :: u7 :: u8 :: u9 :: u10 :: u11 :: u12 :: u13 :: u14 :: Value.int .i64 n :: Value.int .i64 m :: Value.int .i64 (n - m) :: Value.int .i64 (m + 1) :: Value.slice (some ⟨P.fb, 0, none⟩) (n + m + 3).toNat P.sz :: Value.slice (some ⟨P.gb, 0, none⟩) (n + m + 3).toNat P.sz :: u21 :: Value.int .i64 c :: u23 :: u24 :: u25 :: u26 :: u27 :: u28 :: u29 :: Value.int .i64 k :: Value.int .i64 x :: u32 :: u33 :: u34 :: u35 :: u36 :: u37 :: u38 :: u39 :: u40 :: u41 :: u42 :: u43 :: u44 :: u45 :: u46 :: u47 :: u48 :: u49 :: u50 :: u51 :: u52 :: u53 :: u54 :: u55 :: u56 :: u57 :: u58 :: u59 :: u60 :: u61 :: u62 :: u63 :: u64 :: u65 :: u66 :: u67 :: u68 :: u69 :: u70 :: u71 :: u72 :: u73 :: u74 :: u75 :: u76 :: u77 :: u78 :: u79 :: u80 :: u81 :: u82 :: u83 :: u84 :: u85 :: u86 :: u87 :: u88 :: u89 :: u90 :: u91 :: u92 :: u93 :: u94 :: u95 :: u96 :: u97 :: u98 :: u99 :: u100 :: u101 :: u102 :: u103 :: u104 :: u105 :: u106 :: u107 :: u108 :: u109 :: u110 :: u111 :: u112 :: u113 :: u114 :: u115 :: u116 :: u117 :: u118 :: u119 :: u120 :: u121 :: u122 :: u123 :: u124 :: u125 :: u126 :: u127 :: u128 :: u129 :: u130 :: u131 :: u132 :: u133 :: u134 :: u135 :: u136 :: u137 :: u138 :: u139 :: u140 :: u141 :: u142 :: u143 :: u144 :: u145 :: u146 :: u147 :: u148 :: u149 :: u150 :: u151 :: u152 :: u153 :: u154 :: u155 :: u156 :: u157 :: u158 :: u159 :: u160 :: u161 :: u162 :: u163 :: u164 :: u165 :: u166 :: u167 :: u168 :: u169 :: u170 :: u171 :: u172 :: u173 :: u174 :: u175 :: u176 :: u177 :: u178 :: u179 :: u180 :: u181 :: u182 :: u183 :: u184 :: u185 :: u186 :: u187 :: u188 :: u189 :: u190 :: u191 :: u192 :: u193 :: u194 :: u195 :: u196 :: u197 :: u198 :: u199 :: u200 :: u201 :: u202 :: u203 :: u204 :: u205 :: u206 :: u207 :: u208 :: u209 :: u210 :: u211 :: u212 :: u213 :: u214 :: u215 :: u216 :: u217 :: u218 :: u219 :: u220 :: u221 :: u222 :: u223 :: u224 :: u225 :: u226 :: u227 :: u228 :: u229 :: u230 :: u231 :: u232 :: u233 :: u234 :: u235 :: u236 :: u237 :: u238 :: u239 :: u240 :: u241 :: u242 :: u243 :: u244 :: u245 :: u246 :: u247 :: u248 :: u249 :: u250 :: u251 :: u252 :: u253 :: u254 :: u255 :: u256 :: u257 :: u258 :: u259 :: u260 :: u261 :: u262 :: u263 :: u264 :: u265 :: u266 :: u267 :: u268 :: u269 :: u270 :: u271 :: u272 :: u273 :: u274 :: u275 :: u276 :: u277 :: u278 :: u279 :: u280 :: u281 :: u282 :: u283 :: u284 :: u285 :: u286 :: u287 :: u288 :: u289 :: u290 :: u291 :: u292 :: u293 :: u294 :: u295 :: u296 :: u297 :: u298 :: u299 :: u300 :: u301 :: u302 :: u303 :: u304 :: u305 :: u306 :: u307 :: u308 :: u309 :: u310 :: u311 :: u312 :: u313 :: u314 :: u315 :: u316 :: u317 :: u318 :: u319 :: u320 :: u321 :: u322 :: u323 :: u324 :: u325 :: u326 :: u327 :: u328 :: u329 :: u330 :: u331 :: u332 :: u333 :: u334 :: u335 :: u336 :: u337 :: u338 :: u339 :: u340 :: u341 :: u342 :: u343 :: u344 :: u345 :: u346 :: u347 :: u348 :: u349 :: u350 :: u351 :: u352 :: u353 :: u354 :: u355 :: u356 :: u357 :: u358 :: u359 :: u360 :: u361 :: u362 :: u363 :: u364 :: u365 :: u366 :: u367 :: u368 :: u369 :: u370 :: u371 :: u372 :: u373 :: u374 :: u375 :: u376 :: u377 :: u378 :: u379 :: u380 :: u381 :: u382 :: u383 :: u384 :: u385 :: u386 :: u387 :: u388 :: u389 :: u390 :: u391 :: u392 :: u393 :: u394 :: u395 :: u396 :: u397 :: u398 :: u399 :: u400 :: u401 :: u402 :: u403 :: u404 :: u405 :: u406 :: u407 :: u408 :: u409 :: u410 :: u411 :: u412 :: u413 :: u414 :: u415 :: u416 :: u417 :: u418 :: u419 :: u420 :: u421 :: u422 :: u423 :: u424 :: u425 :: u426 :: u427 :: u428 :: u429 :: u430 :: u431 :: u432 :: u433 :: u434 :: u435 :: u436 :: []), []⟩ w := by
  obtain ⟨n1, m1, n2, m2, ha, hb, hal, hbl, hla, hlb, hsz⟩ := hN
  conv => arg 2; arg 1; whnf
  go_loopg [31] x.toNat (fun g X wr => ∃ (y s : Int), X = .int .i64 y ∧ y ≤ x ∧ 0 ≤ y ∧ 0 ≤ y - k ∧ MS P vd vi n m F B s wr ∧ KeptBut [P.L, P.fb, P.gb] w0 wr ∧ st - (x - y) ≤ s ∧ s ≤ st ∧ (g : Int) = y ∧ Hid (My.retTo (eqf P a0 b0) k y = My.retTo (eqf P a0 b0) k x))
  case atStart => exact ⟨x, st, rfl, by omega, hx0, hy0, hM, hK, by omega, by omega, by omega, rfl⟩
  case round =>
    obtain ⟨y, s, rfl, hy2, hy3, hy4, hM1, hK1, hs1, hs2, hg, hadv⟩ := hrel
    clear hM hK
    have wr1 : IntKind.i64.wrap (y - k) = y - k := by rw [IntKind.wrap_i64]; omega
    have wr2 : IntKind.i64.wrap (a0 + y) = a0 + y := by rw [IntKind.wrap_i64]; omega
    have wr3 : IntKind.i64.wrap (a0 + y - 1) = a0 + y - 1 := by rw [IntKind.wrap_i64]; omega
    have wr4 : IntKind.i64.wrap (b0 + y) = b0 + y := by rw [IntKind.wrap_i64]; omega
    have wr5 : IntKind.i64.wrap (b0 + y - k) = b0 + y - k := by rw [IntKind.wrap_i64]; omega
    have wr6 : IntKind.i64.wrap (b0 + y - k - 1) = b0 + y - k - 1 := by rw [IntKind.wrap_i64]; omega
    by_cases h1 : 0 < y
    · by_cases h2 : 0 < y - k
      · have h2a : k < y := by omega
        have c0 := hM1.ab0
        have c1 := hM1.bb0
        have c2 := hM1.acell (i := (a0 + y).toNat - 1) (by omega)
        have c3 := hM1.bcell (i := (b0 + y - k).toNat - 1) (by omega)
        have i1 : 0 ≤ a0 + y - 1 := by omega
        have i2 : a0 + y - 1 < (P.la : Int) := by omega
        have i3 : 0 ≤ b0 + y - k - 1 := by omega
        have i4 : b0 + y - k - 1 < (P.lb : Int) := by omega
        have i5 : 1 ≤ a0 + y := by omega
        have i6 : 1 ≤ b0 + y - k := by omega
        have i7 : k + 1 ≤ b0 + y := by omega
        have i8 : k < b0 + y := by omega
        have i9 : 0 < a0 + y := by omega
        have i10 : 0 < b0 + y - k := by omega
        by_cases h3 : P.za ((a0 + y).toNat - 1) = P.zb ((b0 + y - k).toNat - 1)
        · have h3' : (P.za ((a0 + y).toNat - 1) == P.zb ((b0 + y - k).toNat - 1)) = true := by simpa using h3
          have hE : Hid (My.retTo (eqf P a0 b0) k (y - 1) = My.retTo (eqf P a0 b0) k x) := by
            show _ = _
            rw [← hadv.out]
            unfold My.retTo
            rw [show y.toNat = (y - 1).toNat + 1 by omega, My.ret, if_pos ⟨h1, h2, by unfold eqf; rw [show (a0 + (y - 1)).toNat = (a0 + y).toNat - 1 by omega, show (b0 + (y - k - 1)).toNat = (b0 + y - k).toNat - 1 by omega]; exact h3'⟩]
          clear hadv h3
          go_upto_region 61 with fail
          go_quiet (fail)
          have hM2 := hM1.drewN nq
          obtain ⟨c4, c5⟩ := hM2.steps
          have hM3 := hM2.setSteps (s - 1)
          have hK3 := (hK1.trans (KeptBut.drewN _ _ nq)).setCell (p := ⟨P.L, 6, none⟩) (by simp) (.int .i64 (s - 1))
          clear c0 c1 c2 c3 i1 i2 i3 i4 i5 i6 i7 i8 i9 i10 wr2 wr3 wr4 wr5 wr6 hM1 hM2 hK1 h3'
          go_wp2
          go_roundg (y - 1).toNat
          case measure => omega
          case rel => exact ⟨y - 1, s - 1, rfl, by omega, by omega, by omega, hM3, hK3, by omega, by omega, by omega, hE⟩
        · have h3' : (P.za ((a0 + y).toNat - 1) == P.zb ((b0 + y - k).toNat - 1)) = false := by simpa using h3
          have hE : Hid (My.retTo (eqf P a0 b0) k x = y) := by
            show _ = _
            rw [← hadv.out]
            unfold My.retTo
            rw [show y.toNat = (y - 1).toNat + 1 by omega, My.ret, if_neg (fun h => by have := h.2.2; unfold eqf at this; rw [show (a0 + (y - 1)).toNat = (a0 + y).toNat - 1 by omega, show (b0 + (y - k - 1)).toNat = (b0 + y - k).toNat - 1 by omega, h3'] at this; cases this)]
          clear hadv h3
          go_upto_region 61 with fail
          go_quiet (fail)
          have hM2 := hM1.drewN nq
          have hK2 := hK1.trans (KeptBut.drewN [P.L, P.fb, P.gb] wr nq)
          clear hM1 hK1
          go_wp2
          have hX := hexit
          rw [hE.out] at hX
          exact hX _ _ _ _ _ _ _ _ _ _ _ _ _ _ _ _ _ _ _ _ _ _ _ _ _ _ _ _ _ _ _ _ _ _ _ _ _ _ _ _ _ _ _ _ hM2 hK2 (by omega) (by omega)
      · have h2' : decide (0 < y - k) = false := decide_eq_false h2
        have h2a : decide (k < y) = false := decide_eq_false (by omega)
        have hE : Hid (My.retTo (eqf P a0 b0) k x = y) := by
          show _ = _
          rw [← hadv.out]
          unfold My.retTo
          rw [show y.toNat = (y - 1).toNat + 1 by omega, My.ret, if_neg (fun h => h2 h.2.1)]
        clear hadv h2
        go_upto_region 61 with fail
        go_quiet (fail)
        have hM2 := hM1.drewN nq
        have hK2 := hK1.trans (KeptBut.drewN [P.L, P.fb, P.gb] wr nq)
        clear hM1 hK1
        go_wp2
        have hX := hexit
        rw [hE.out] at hX
        exact hX _ _ _ _ _ _ _ _ _ _ _ _ _ _ _ _ _ _ _ _ _ _ _ _ _ _ _ _ _ _ _ _ _ _ _ _ _ _ _ _ _ _ _ _ hM2 hK2 (by omega) (by omega)
    · have h1' : decide (0 < y) = false := decide_eq_false h1
      have hE : Hid (My.retTo (eqf P a0 b0) k x = y) := by
        show _ = _
        rw [← hadv.out]
        unfold My.retTo
        rw [show y.toNat = 0 by omega, My.ret]
      have hyn : y ≤ 0 := by omega
      clear hadv h1
      go_upto_region 61 with fail
      go_quiet (fail)
      have hM2 := hM1.drewN nq
      have hK2 := hK1.trans (KeptBut.drewN [P.L, P.fb, P.gb] wr nq)
      clear hM1 hK1
      go_wp2
      have hX := hexit
      rw [hE.out] at hX
      exact hX _ _ _ _ _ _ _ _ _ _ _ _ _ _ _ _ _ _ _ _ _ _ _ _ _ _ _ _ _ _ _ _ _ _ _ _ _ _ _ _ _ _ _ _ hM2 hK2 (by omega) (by omega)
end Go.Proofs.Qxb6601687a

import Derived.Test.Qxb6601687aMem
import Derived.Deep.CutBlock
import Derived.Deep.LoopGhost
import Derived.Deep.QuietTactic
import Derived.BigQuiet
namespace Go.Proofs.Qxb6601687a
open Go.ChangeShapes Go.WideShapes Go.ChangeAt Go.RowKit

/-- The bodies of a text's loops, in their order. -/
def loopsOf : Code → List Code
  | .loop c => c :: loopsOf c
  | .seq a b => loopsOf a ++ loopsOf b
  | .block _ c => loopsOf c
  | .scope c => loopsOf c
  | .cond _ a b => loopsOf a ++ loopsOf b
  | _ => []

/-- The blocks of a text with a number. -/
def blocksOf : Code → List (Nat × Code)
  | .block k c => (k, c) :: blocksOf c
  | .loop c => blocksOf c
  | .seq a b => blocksOf a ++ blocksOf b
  | .scope c => blocksOf c
  | .cond _ a b => blocksOf a ++ blocksOf b
  | _ => []
def blockAt (k : Nat) (c : Code) : Code := (((blocksOf c).find? (fun p => p.1 == k)).map (fun p => p.2)).getD .skip

/-- Are line a0 + x of a and line b0 + y of b one? -/
def eqf (P : Lay) (a0 b0 x y : Int) : Bool := P.za (a0 + x).toNat == P.zb (b0 + y).toNat

/-- The numbers of a call of middleSnake. -/
structure Nums (P : Lay) (a0 b0 n m : Int) : Prop where
  n1 : 1 ≤ n
  m1 : 1 ≤ m
  n2 : n ≤ 1024
  m2 : m ≤ 1024
  a : 0 ≤ a0
  b : 0 ≤ b0
  al : a0 + n ≤ P.la
  bl : b0 + m ≤ P.lb
  la : P.la ≤ 1024
  lb : P.lb ≤ 1024
  sz : P.sz ≤ 4096

set_option maxRecDepth 100000 in
set_option maxHeartbeats 4000000 in
/-- The forward run of equal lines. -/
theorem adv_wp (P : Lay) (vd vi : Value) (a0 a1 b0 b1 n m c k x st : Int) (F B : Int → Int) (w w0 : World) (Q0 : Exit → Act → World → Prop) (u5 u6 u7 u8 u9 u10 u11 u12 u13 u14 u21 u25 u26 u27 u28 u29 u30 u31 u32 u33 u34 u35 u36 u37 u38 u39 u40 u41 u42 u43 u44 u45 u46 u47 u48 u49 u50 u51 u52 u53 u54 u55 u56 u57 u58 u59 u60 u61 u62 u63 u64 u65 u66 u67 u68 u69 u70 u71 u72 u73 u74 u75 u76 u77 u78 u79 u80 u81 u82 u83 u84 u85 u86 u87 u88 u89 u90 u91 u92 u93 u94 u95 u96 u97 u98 u99 u100 u101 u102 u103 u104 u105 u106 u107 u108 u109 u110 u111 u112 u113 u114 u115 u116 u117 u118 u119 u120 u121 u122 u123 u124 u125 u126 u127 u128 u129 u130 u131 u132 u133 u134 u135 u136 u137 u138 u139 u140 u141 u142 u143 u144 u145 u146 u147 u148 u149 u150 u151 u152 u153 u154 u155 u156 u157 u158 u159 u160 u161 u162 u163 u164 u165 u166 u167 u168 u169 u170 u171 u172 u173 u174 u175 u176 u177 u178 u179 u180 u181 u182 u183 u184 u185 u186 u187 u188 u189 u190 u191 u192 u193 u194 u195 u196 u197 u198 u199 u200 u201 u202 u203 u204 u205 u206 u207 u208 u209 u210 u211 u212 u213 u214 u215 u216 u217 u218 u219 u220 u221 u222 u223 u224 u225 u226 u227 u228 u229 u230 u231 u232 u233 u234 u235 u236 u237 u238 u239 u240 u241 u242 u243 u244 u245 u246 u247 u248 u249 u250 u251 u252 u253 u254 u255 u256 u257 u258 u259 u260 u261 u262 u263 u264 u265 u266 u267 u268 u269 u270 u271 u272 u273 u274 u275 u276 u277 u278 u279 u280 u281 u282 u283 u284 u285 u286 u287 u288 u289 u290 u291 u292 u293 u294 u295 u296 u297 u298 u299 u300 u301 u302 u303 u304 u305 u306 u307 u308 u309 u310 u311 u312 u313 u314 u315 u316 u317 u318 u319 u320 u321 u322 u323 u324 u325 u326 u327 u328 u329 u330 u331 u332 u333 u334 u335 u336 u337 u338 u339 u340 u341 u342 u343 u344 u345 u346 u347 u348 u349 u350 u351 u352 u353 u354 u355 u356 u357 u358 u359 u360 u361 u362 u363 u364 u365 u366 u367 u368 u369 u370 u371 u372 u373 u374 u375 u376 u377 u378 u379 u380 u381 u382 u383 u384 u385 u386 u387 u388 u389 u390 u391 u392 u393 u394 u395 u396 u397 u398 u399 u400 u401 u402 u403 u404 u405 u406 u407 u408 u409 u410 u411 u412 u413 u414 u415 u416 u417 u418 u419 u420 u421 u422 u423 u424 u425 u426 u427 u428 u429 u430 u431 u432 u433 u434 u435 u436 : Value)
    (hN : Nums P a0 b0 n m) (hx0 : 0 ≤ x) (hx1 : x ≤ n) (hy0 : 0 ≤ x - k) (hy1 : x - k ≤ m) (hst : 2048 ≤ st) (hst2 : st ≤ 9223372036854775807)
    (hM : MS P vd vi n m F B st w) (hK : KeptBut [P.L, P.fb, P.gb] w0 w)
    (hexit : ∀ (v168 v169 v170 v171 v172 v173 v174 v175 v176 v177 v178 v179 v180 v181 v182 v183 v184 v185 v186 v187 v188 v189 v190 v191 v192 v193 v194 v195 v196 v197 v198 v199 v200 v201 v202 v203 v204 v205 v206 v207 v208 v209 : Value) (st' : Int) (w' : World), MS P vd vi n m F B st' w' → KeptBut [P.L, P.fb, P.gb] w0 w' → st - n ≤ st' → st' ≤ st → Q0 (.exit 6) ⟨List.toArray (Value.pointer (some ⟨P.L, 0, none⟩) :: Value.int .i64 a0 :: Value.int .i64 a1 :: Value.int .i64 b0 :: Value.int .i64 b1 :: u5 :: u6 :: u7 :: u8 :: u9 :: u10 :: u11 :: u12 :: u13 :: u14 :: Value.int .i64 n :: Value.int .i64 m :: Value.int .i64 (n - m) :: Value.int .i64 (m + 1) :: Value.slice (some ⟨P.fb, 0, none⟩) (n + m + 3).toNat P.sz :: Value.slice (some ⟨P.gb, 0, none⟩) (n + m + 3).toNat P.sz :: u21 :: Value.int .i64 c :: Value.int .i64 k :: Value.int .i64 (My.advTo (eqf P a0 b0) n m k x) :: u25 :: u26 :: u27 :: u28 :: u29 :: u30 :: u31 :: u32 :: u33 :: u34 :: u35 :: u36 :: u37 :: u38 :: u39 :: u40 :: u41 :: u42 :: u43 :: u44 :: u45 :: u46 :: u47 :: u48 :: u49 :: u50 :: u51 :: u52 :: u53 :: u54 :: u55 :: u56 :: u57 :: u58 :: u59 :: u60 :: u61 :: u62 :: u63 :: u64 :: u65 :: u66 :: u67 :: u68 :: u69 :: u70 :: u71 :: u72 :: u73 :: u74 :: u75 :: u76 :: u77 :: u78 :: u79 :: u80 :: u81 :: u82 :: u83 :: u84 :: u85 :: u86 :: u87 :: u88 :: u89 :: u90 :: u91 :: u92 :: u93 :: u94 :: u95 :: u96 :: u97 :: u98 :: u99 :: u100 :: u101 :: u102 :: u103 :: u104 :: u105 :: u106 :: u107 :: u108 :: u109 :: u110 :: u111 :: u112 :: u113 :: u114 :: u115 :: u116 :: u117 :: u118 :: u119 :: u120 :: u121 :: u122 :: u123 :: u124 :: u125 :: u126 :: u127 :: u128 :: u129 :: u130 :: u131 :: u132 :: u133 :: u134 :: u135 :: u136 :: u137 :: u138 :: u139 :: u140 :: u141 :: u142 :: u143 :: u144 :: u145 :: u146 :: u147 :: u148 :: u149 :: u150 :: u151 :: u152 :: u153 :: u154 :: u155 :: u156 :: u157 :: u158 :: u159 :: u160 :: u161 :: u162 :: u163 :: u164 :: u165 :: u166 :: u167 :: v168 :: v169 :: v170 :: v171 :: v172 :: v173 :: v174 :: v175 :: v176 :: v177 :: v178 :: v179 :: v180 :: v181 :: v182 :: v183 :: v184 :: v185 :: v186 :: v187 :: v188 :: v189 :: v190 :: v191 :: v192 :: v193 :: v194 :: v195 :: v196 :: v197 :: v198 :: v199 :: v200 :: v201 :: v202 :: v203 :: v204 :: v205 :: v206 :: v207 :: v208 :: v209 :: u210 :: u211 :: u212 :: u213 :: u214 :: u215 :: u216 :: u217 :: u218 :: u219 :: u220 :: u221 :: u222 :: u223 :: u224 :: u225 :: u226 :: u227 :: u228 :: u229 :: u230 :: u231 :: u232 :: u233 :: u234 :: u235 :: u236 :: u237 :: u238 :: u239 :: u240 :: u241 :: u242 :: u243 :: u244 :: u245 :: u246 :: u247 :: u248 :: u249 :: u250 :: u251 :: u252 :: u253 :: u254 :: u255 :: u256 :: u257 :: u258 :: u259 :: u260 :: u261 :: u262 :: u263 :: u264 :: u265 :: u266 :: u267 :: u268 :: u269 :: u270 :: u271 :: u272 :: u273 :: u274 :: u275 :: u276 :: u277 :: u278 :: u279 :: u280 :: u281 :: u282 :: u283 :: u284 :: u285 :: u286 :: u287 :: u288 :: u289 :: u290 :: u291 :: u292 :: u293 :: u294 :: u295 :: u296 :: u297 :: u298 :: u299 :: u300 :: u301 :: u302 :: u303 :: u304 :: u305 :: u306 :: u307 :: u308 :: u309 :: u310 :: u311 :: u312 :: u313 :: u314 :: u315 :: u316 :: u317 :: u318 :: u319 :: u320 :: u321 :: u322 :: u323 :: u324 :: u325 :: u326 :: u327 :: u328 :: u329 :: u330 :: u331 :: u332 :: u333 :: u334 :: u335 :: u336 :: u337 :: u338 :: u339 :: u340 :: u341 :: u342 :: u343 :: u344 :: u345 :: u346 :: u347 :: u348 :: u349 :: u350 :: u351 :: u352 :: u353 :: u354 :: u355 :: u356 :: u357 :: u358 :: u359 :: u360 :: u361 :: u362 :: u363 :: u364 :: u365 :: u366 :: u367 :: u368 :: u369 :: u370 :: u371 :: u372 :: u373 :: u374 :: u375 :: u376 :: u377 :: u378 :: u379 :: u380 :: u381 :: u382 :: u383 :: u384 :: u385 :: u386 :: u387 :: u388 :: u389 :: u390 :: u391 :: u392 :: u393 :: u394 :: u395 :: u396 :: u397 :: u398 :: u399 :: u400 :: u401 :: u402 :: u403 :: u404 :: u405 :: u406 :: u407 :: u408 :: u409 :: u410 :: u411 :: u412 :: u413 :: u414 :: u415 :: u416 :: u417 :: u418 :: u419 :: u420 :: u421 :: u422 :: u423 :: u424 :: u425 :: u426 :: u427 :: u428 :: u429 :: u430 :: u431 :: u432 :: u433 :: u434 :: u435 :: u436 :: []), []⟩ w') :
    Code.wp Try.prog (Code.loop ((loopsOf (Try.f33.body.getD .skip)).getD 3 .skip)) Q0 ⟨List.toArray (Value.pointer (some ⟨P.L, 0, none⟩) :: Value.int .i64 a0 :: Value.int .i64 a1 :: Value.int .i64 b0 :: Value.int .i64 b1 :: u5 :: u6 :: u7 :: u8 :: u9 :: u10 :: u11 :: u12 :: u13 :: u14 :: Value.int .i64 n :: Value.int .i64 m :: Value.int .i64 (n - m) :: Value.int .i64 (m + 1) :: Value.slice (some ⟨P.fb, 0, none⟩) (n + m + 3).toNat P.sz :: Value.slice (some ⟨P.gb, 0, none⟩) (n + m + 3).toNat P.sz :: u21 :: Value.int .i64 c :: Value.int .i64 k :: Value.int .i64 x :: u25 :: u26 :: u27 :: u28 :: u29 :: u30 :: u31 :: u32 :: u33 :: u34 :: u35 :: u36 :: u37 :: u38 :: u39 :: u40 :: u41 :: u42 :: u43 :: u44 :: u45 :: u46 :: u47 :: u48 :: u49 :: u50 :: u51 :: u52 :: u53 :: u54 :: u55 :: u56 :: u57 :: u58 :: u59 :: u60 :: u61 :: u62 :: u63 :: u64 :: u65 :: u66 :: u67 :: u68 :: u69 :: u70 :: u71 :: u72 :: u73 :: u74 :: u75 :: u76 :: u77 :: u78 :: u79 :: u80 :: u81 :: u82 :: u83 :: u84 :: u85 :: u86 :: u87 :: u88 :: u89 :: u90 :: u91 :: u92 :: u93 :: u94 :: u95 :: u96 :: u97 :: u98 :: u99 :: u100 :: u101 :: u102 :: u103 :: u104 :: u105 :: u106 :: u107 :: u108 :: u109 :: u110 :: u111 :: u112 :: u113 :: u114 :: u115 :: u116 :: u117 :: u118 :: u119 :: u120 :: u121 :: u122 :: u123 :: u124 :: u125 :: u126 :: u127 :: u128 :: u129 :: u130 :: u131 :: u132 :: u133 :: u134 :: u135 :: u136 :: u137 :: u138 :: u139 :: u140 :: u141 :: u142 :: u143 :: u144 :: u145 :: u146 :: u147 :: u148 :: u149 :: u150 :: u151 :: u152 :: u153 :: u154 :: u155 :: u156 :: u157 :: u158 :: u159 :: u160 :: u161 :: u162 :: u163 :: u164 :: u165 :: u166 :: u167 :: u168 :: u169 :: u170 :: u171 :: u172 :: u173 :: u174 :: u175 :: u176 :: u177 :: u178 :: u179 :: u180 :: u181 :: u182 :: u183 :: u184 :: u185 :: u186 :: u187 :: u188 :: u189 :: u190 :: u191 :: u192 :: u193 :: u194 :: u195 :: u196 :: u197 :: u198 :: u199 :: u200 :: u201 :: u202 :: u203 :: u204 :: u205 :: u206 :: u207 :: u208 :: u209 :: u210 :: u211 :: u212 :: u213 :: u214 :: u215 :: u216 :: u217 :: u218 :: u219 :: u220 :: u221 :: u222 :: u223 :: u224 :: u225 :: u226 :: u227 :: u228 :: u229 :: u230 :: u231 :: u232 :: u233 :: u234 :: u235 :: u236 :: u237 :: u238 :: u239 :: u240 :: u241 :: u242 :: u243 :: u244 :: u245 :: u246 :: u247 :: u248 :: u249 :: u250 :: u251 :: u252 :: u253 :: u254 :: u255 :: u256 :: u257 :: u258 :: u259 :: u260 :: u261 :: u262 :: u263 :: u264 :: u265 :: u266 :: u267 :: u268 :: u269 :: u270 :: u271 :: u272 :: u273 :: u274 :: u275 :: u276 :: u277 :: u278 :: u279 :: u280 :: u281 :: u282 :: u283 :: u284 :: u285 :: u286 :: u287 :: u288 :: u289 :: u290 :: u291 :: u292 :: u293 :: u294 :: u295 :: u296 :: u297 :: u298 :: u299 :: u300 :: u301 :: u302 :: u303 :: u304 :: u305 :: u306 :: u307 :: u308 :: u309 :: u310 :: u311 :: u312 :: u313 :: u314 :: u315 :: u316 :: u317 :: u318 :: u319 :: u320 :: u321 :: u322 :: u323 :: u324 :: u325 :: u326 :: u327 :: u328 :: u329 :: u330 :: u331 :: u332 :: u333 :: u334 :: u335 :: u336 :: u337 :: u338 :: u339 :: u340 :: u341 :: u342 :: u343 :: u344 :: u345 :: u346 :: u347 :: u348 :: u349 :: u350 :: u351 :: u352 :: u353 :: u354 :: u355 :: u356 :: u357 :: u358 :: u359 :: u360 :: u361 :: u362 :: u363 :: u364 :: u365 :: u366 :: u367 :: u368 :: u369 :: u370 :: u371 :: u372 :: u373 :: u374 :: u375 :: u376 :: u377 :: u378 :: u379 :: u380 :: u381 :: u382 :: u383 :: u384 :: u385 :: u386 :: u387 :: u388 :: u389 :: u390 :: u391 :: u392 :: u393 :: u394 :: u395 :: u396 :: u397 :: u398 :: u399 :: u400 :: u401 :: u402 :: u403 :: u404 :: u405 :: u406 :: u407 :: u408 :: u409 :: u410 :: u411 :: u412 :: u413 :: u414 :: u415 :: u416 :: u417 :: u418 :: u419 :: u420 :: u421 :: u422 :: u423 :: u424 :: u425 :: u426 :: u427 :: u428 :: u429 :: u430 :: u431 :: u432 :: u433 :: u434 :: u435 :: u436 :: []), []⟩ w := by
  obtain ⟨n1, m1, n2, m2, ha, hb, hal, hbl, hla, hlb, hsz⟩ := hN
  conv => arg 2; arg 1; whnf
  go_loopg [24] (n - x).toNat (fun g X wr => ∃ (y s : Int), X = .int .i64 y ∧ x ≤ y ∧ y ≤ n ∧ y - k ≤ m ∧ MS P vd vi n m F B s wr ∧ KeptBut [P.L, P.fb, P.gb] w0 wr ∧ st - (y - x) ≤ s ∧ s ≤ st ∧ (g : Int) = n - y ∧ Hid (My.advTo (eqf P a0 b0) n m k y = My.advTo (eqf P a0 b0) n m k x))
  case atStart => exact ⟨x, st, rfl, by omega, hx1, hy1, hM, hK, by omega, by omega, by omega, rfl⟩
  case round =>
    obtain ⟨y, s, rfl, hy2, hy3, hy4, hM1, hK1, hs1, hs2, hg, hadv⟩ := hrel
    clear hM hK
    by_cases h1 : y < n
    · by_cases h2 : y - k < m
      · have c0 := hM1.ab0
        have c1 := hM1.bb0
        have c2 := hM1.acell (i := (a0 + y).toNat) (by omega)
        have c3 := hM1.bcell (i := (b0 + y - k).toNat) (by omega)
        have i1 : 0 ≤ a0 + y := by omega
        have i2 : a0 + y < (P.la : Int) := by omega
        have i3 : 0 ≤ b0 + y - k := by omega
        have i4 : b0 + y - k < (P.lb : Int) := by omega
        by_cases h3 : P.za (a0 + y).toNat = P.zb (b0 + y - k).toNat
        · have h3' : (P.za (a0 + y).toNat == P.zb (b0 + y - k).toNat) = true := by simpa using h3
          have hE : Hid (My.advTo (eqf P a0 b0) n m k (y + 1) = My.advTo (eqf P a0 b0) n m k x) := by
            show _ = _
            rw [← hadv.out]
            unfold My.advTo
            rw [show (n - y).toNat = (n - (y + 1)).toNat + 1 by omega, My.adv, if_pos ⟨h1, h2, by unfold eqf; rw [show b0 + (y - k) = b0 + y - k by omega]; exact h3'⟩]
          clear hadv h3
          go_upto_region 33 with fail
          go_quiet (fail)
          have hM2 := hM1.drewN nq
          obtain ⟨c4, c5⟩ := hM2.steps
          have hM3 := hM2.setSteps (s - 1)
          have hK3 := (hK1.trans (KeptBut.drewN _ _ nq)).setCell (p := ⟨P.L, 6, none⟩) (by simp) (.int .i64 (s - 1))
          clear c0 c1 c2 c3 i1 i2 i3 i4 hM1 hM2 hK1 h3'
          go_wp2
          go_roundg (n - (y + 1)).toNat
          case measure => omega
          case rel => exact ⟨y + 1, s - 1, rfl, by omega, by omega, by omega, hM3, hK3, by omega, by omega, by omega, hE⟩
        · have h3' : (P.za (a0 + y).toNat == P.zb (b0 + y - k).toNat) = false := by simpa using h3
          have hE : Hid (My.advTo (eqf P a0 b0) n m k x = y) := by
            show _ = _
            rw [← hadv.out]
            unfold My.advTo
            rw [show (n - y).toNat = (n - (y + 1)).toNat + 1 by omega, My.adv, if_neg (fun h => by have := h.2.2; unfold eqf at this; rw [show b0 + (y - k) = b0 + y - k by omega, h3'] at this; cases this)]
          clear hadv h3
          go_upto_region 33 with fail
          go_quiet (fail)
          have hM2 := hM1.drewN nq
          have hK2 := hK1.trans (KeptBut.drewN [P.L, P.fb, P.gb] wr nq)
          clear c0 c1 c2 c3 i1 i2 i3 i4 hM1 hK1
          go_wp2
          have hX := hexit
          rw [hE.out] at hX
          exact hX _ _ _ _ _ _ _ _ _ _ _ _ _ _ _ _ _ _ _ _ _ _ _ _ _ _ _ _ _ _ _ _ _ _ _ _ _ _ _ _ _ _ _ _ hM2 hK2 (by omega) (by omega)
      · have h2' : decide (y - k < m) = false := decide_eq_false h2
        have hE : Hid (My.advTo (eqf P a0 b0) n m k x = y) := by
          show _ = _
          rw [← hadv.out]
          unfold My.advTo
          rw [show (n - y).toNat = (n - (y + 1)).toNat + 1 by omega, My.adv, if_neg (fun h => h2 h.2.1)]
        clear hadv h2
        go_upto_region 33 with fail
        go_quiet (fail)
        have hM2 := hM1.drewN nq
        have hK2 := hK1.trans (KeptBut.drewN [P.L, P.fb, P.gb] wr nq)
        clear hM1 hK1
        go_wp2
        have hX := hexit
        rw [hE.out] at hX
        exact hX _ _ _ _ _ _ _ _ _ _ _ _ _ _ _ _ _ _ _ _ _ _ _ _ _ _ _ _ _ _ _ _ _ _ _ _ _ _ _ _ _ _ _ _ hM2 hK2 (by omega) (by omega)
    · have h1' : decide (y < n) = false := decide_eq_false h1
      have hE : Hid (My.advTo (eqf P a0 b0) n m k x = y) := by
        show _ = _
        rw [← hadv.out]
        unfold My.advTo
        rw [show (n - y).toNat = 0 by omega, My.adv]
      have hyn : n ≤ y := by omega
      clear hadv h1
      go_upto_region 33 with fail
      go_quiet (fail)
      have hM2 := hM1.drewN nq
      have hK2 := hK1.trans (KeptBut.drewN [P.L, P.fb, P.gb] wr nq)
      clear hM1 hK1
      go_wp2
      have hX := hexit
      rw [hE.out] at hX
      exact hX _ _ _ _ _ _ _ _ _ _ _ _ _ _ _ _ _ _ _ _ _ _ _ _ _ _ _ _ _ _ _ _ _ _ _ _ _ _ _ _ _ _ _ _ hM2 hK2 (by omega) (by omega)
end Go.Proofs.Qxb6601687a

/-
  Loop 10: the last read of the key, by the ranges.
  Typed by the prover of this seat (an AI agent); the frames' slots by a script of his.
-/
import Derived.Test.YbulkbyoPlain
namespace Go.Proofs.Ybulkbyo
open Go.RowKit Go.MapFn
set_option maxRecDepth 1000000
section
variable {u0 u1 u2 u3 u4 u5 u6 u7 u8 u9 u10 u11 u12 u13 u14 u15 u16 u17 u18 u19 u20 u21 u22 u23 u24 u25 u26 u27 u28 u29 u30 u31 u32 u33 u34 u35 u36 u37 u38 u39 u40 u41 u42 u43 u44 u45 u46 u47 u48 u49 u50 u51 u52 u53 u54 u55 u56 u57 u58 u59 u60 u61 u62 u63 u64 u65 u66 u67 u68 u69 u70 u71 u72 u73 u74 u75 u76 u77 u78 u79 u80 u81 u82 u83 u84 u85 u86 u87 u88 u89 u90 u91 u92 u93 u94 u95 u96 u97 u98 u99 u100 u101 u102 u103 u104 u105 u106 u107 u108 u109 u110 u111 u112 u113 u114 u115 u116 u117 u118 u119 u120 u121 u122 u123 u124 u125 u126 u127 u128 u129 u130 u131 u132 u133 u134 u135 u136 u137 u138 u139 u140 u141 u142 u143 u144 u145 u146 u147 u148 u149 u150 u151 u152 u153 u154 u155 u156 u157 u158 u159 u160 u161 u162 u163 u164 u165 u166 u167 u168 u169 u170 u171 u172 u173 u174 u175 u176 u177 u178 u179 u180 u181 u182 u183 u184 u185 u186 u187 u188 u189 u190 u191 u192 u193 u194 u195 u196 u197 u198 u199 u200 u201 u202 u203 u204 u205 u206 u207 u208 u209 u210 u211 u212 u213 u214 u215 u216 u217 u218 u219 u220 u221 u222 u223 u224 u225 u226 u227 u228 u229 u230 u231 u232 u233 u234 u235 u236 u237 u238 u239 u240 u241 u242 u243 u244 u245 u246 u247 u248 u249 u250 u251 u252 u253 u254 u255 u256 u257 u258 u259 u260 u261 u262 u263 u264 u265 u266 u267 u268 u269 u270 u271 u272 u273 u274 u275 u276 u277 u278 u279 u280 u281 u282 u283 u284 u285 u286 u287 u288 u289 u290 u291 u292 u293 u294 u295 u296 u297 u298 u299 u300 u301 u302 u303 u304 u305 u306 u307 u308 u309 u310 u311 u312 u313 u314 u315 u316 u317 u318 u319 u320 u321 u322 u323 u324 u325 u326 u327 u328 u329 u330 u331 u332 u333 u334 u335 u336 u337 u338 u339 u340 u341 u342 u343 u344 u345 u346 u347 u348 u349 u350 u351 u352 u353 u354 u355 u356 u357 u358 u359 u360 u361 u362 u363 u364 u365 u366 u367 u368 u369 u370 u371 u372 u373 u374 u375 u376 u377 u378 u379 u380 u381 u382 u383 u384 u385 u386 u387 u388 u389 u390 u391 u392 u393 u394 u395 u396 u397 u398 u399 u400 u401 u402 u403 u404 u405 u406 u407 u408 u409 u410 u411 u412 u413 u414 u415 u416 u417 u418 u419 u420 u421 u422 u423 u424 u425 u426 u427 u428 u429 u430 u431 u432 u433 u434 u435 u436 u437 u438 u439 u440 u441 u442 u443 u444 u445 u446 u447 u448 u449 u450 u451 u452 u453 u454 u455 u456 u457 u458 u459 u460 u461 u462 u463 u464 u465 u466 u467 u468 u469 u470 u471 u472 u473 u474 u475 u476 u477 u478 u479 u480 u481 u482 u483 u484 u485 u486 u487 u488 u489 u490 u491 u492 u493 u494 u495 u496 u497 u498 u499 u500 u501 u502 u503 u504 u505 u506 u507 u508 u509 u510 u511 u512 u513 u514 u515 u516 u517 u518 u519 u520 u521 u522 u523 u524 u525 u526 u527 u528 u529 u530 u531 u532 u533 u534 u535 u536 u537 u538 u539 u540 u541 u542 u543 u544 u545 u546 : Value}
variable {B0 T R W9 : Nat} {w0 w : World} {lv sn : Int} {v9 v11 v12 v13 v14 : Value} {rd : Int → Option Int} {wf : Int → Option Value} {sc : Int → Option Int} {sv : Int → Option Bool}
    {n9 : Nat} {fr tw : Nat → ByteArray} {rev : Nat → Int} {n12 : Nat} {xs12 : List Value} {n13 : Nat} {xs13 : List Value} {N : Nat}

set_option maxHeartbeats 4000000 in
theorem loop10 (a3 : Option Addr) (l3 c3 st : Nat) (s0 : Int) (f t : Nat → Int) (m : Int) (Q : Exit → Act → World → Prop)
    (hl : (l3 : Int) ≤ 1024) (hst : (st : Int) ≤ l3) (hB0 : w0.heap.size = B0) (hr : Hid (IsRanges w0 a3 l3 f t rev)) (hb : Hid (Below B0 w0 w))
    (hQ : Hid (∀ (x57 x58 x59 x60 x335 x336 x337 x338 x339 x340 x341 x342 x343 x344 x345 x346 x347 x348 x349 x350 x351 x352 x353 x354 x355 x356 x357 x358 x359 x360 x361 x362 x363 x364 x365 x366 x367 x368 x369 x370 : Value) (wr : World), Below w.heap.size w wr → Q (.exit 18) ⟨List.toArray (u0 :: u1 :: u2 :: (.slice a3 l3 c3) :: u4 :: u5 :: u6 :: u7 :: u8 :: u9 :: u10 :: u11 :: u12 :: u13 :: u14 :: u15 :: u16 :: u17 :: u18 :: u19 :: u20 :: u21 :: u22 :: u23 :: u24 :: u25 :: u26 :: u27 :: u28 :: u29 :: u30 :: u31 :: u32 :: u33 :: u34 :: u35 :: u36 :: u37 :: (.string (kb m)) :: u39 :: u40 :: u41 :: u42 :: u43 :: u44 :: u45 :: u46 :: u47 :: u48 :: u49 :: u50 :: (.int .i64 (sinceTo (kb m) (fun i => bb (f i % 6)) (fun i => bb (t i % 6)) rev s0 st (l3 - st))) :: u52 :: u53 :: u54 :: u55 :: u56 :: x57 :: x58 :: x59 :: x60 :: u61 :: u62 :: u63 :: u64 :: u65 :: u66 :: u67 :: u68 :: u69 :: u70 :: u71 :: u72 :: u73 :: u74 :: u75 :: u76 :: u77 :: u78 :: u79 :: u80 :: u81 :: u82 :: u83 :: u84 :: u85 :: u86 :: u87 :: u88 :: u89 :: u90 :: u91 :: u92 :: u93 :: u94 :: u95 :: u96 :: u97 :: u98 :: u99 :: u100 :: u101 :: u102 :: u103 :: u104 :: u105 :: u106 :: u107 :: u108 :: u109 :: u110 :: u111 :: u112 :: u113 :: u114 :: u115 :: u116 :: u117 :: u118 :: u119 :: u120 :: u121 :: u122 :: u123 :: u124 :: u125 :: u126 :: u127 :: u128 :: u129 :: u130 :: u131 :: u132 :: u133 :: u134 :: u135 :: u136 :: u137 :: u138 :: u139 :: u140 :: u141 :: u142 :: u143 :: u144 :: u145 :: u146 :: u147 :: u148 :: u149 :: u150 :: u151 :: u152 :: u153 :: u154 :: u155 :: u156 :: u157 :: u158 :: u159 :: u160 :: u161 :: u162 :: u163 :: u164 :: u165 :: u166 :: u167 :: u168 :: u169 :: u170 :: u171 :: u172 :: u173 :: u174 :: u175 :: u176 :: u177 :: u178 :: u179 :: u180 :: u181 :: u182 :: u183 :: u184 :: u185 :: u186 :: u187 :: u188 :: u189 :: u190 :: u191 :: u192 :: u193 :: u194 :: u195 :: u196 :: u197 :: u198 :: u199 :: u200 :: u201 :: u202 :: u203 :: u204 :: u205 :: u206 :: u207 :: u208 :: u209 :: u210 :: u211 :: u212 :: u213 :: u214 :: u215 :: u216 :: u217 :: u218 :: u219 :: u220 :: u221 :: u222 :: u223 :: u224 :: u225 :: u226 :: u227 :: u228 :: u229 :: u230 :: u231 :: u232 :: u233 :: u234 :: u235 :: u236 :: u237 :: u238 :: u239 :: u240 :: u241 :: u242 :: u243 :: u244 :: u245 :: u246 :: u247 :: u248 :: u249 :: u250 :: u251 :: u252 :: u253 :: u254 :: u255 :: u256 :: u257 :: u258 :: u259 :: u260 :: u261 :: u262 :: u263 :: u264 :: u265 :: u266 :: u267 :: u268 :: u269 :: u270 :: u271 :: u272 :: u273 :: u274 :: u275 :: u276 :: u277 :: u278 :: u279 :: u280 :: u281 :: u282 :: u283 :: u284 :: u285 :: u286 :: u287 :: u288 :: u289 :: u290 :: u291 :: u292 :: u293 :: u294 :: u295 :: u296 :: u297 :: u298 :: u299 :: u300 :: u301 :: u302 :: u303 :: u304 :: u305 :: u306 :: u307 :: u308 :: u309 :: u310 :: u311 :: u312 :: u313 :: u314 :: u315 :: u316 :: u317 :: u318 :: u319 :: u320 :: u321 :: u322 :: u323 :: u324 :: u325 :: u326 :: u327 :: u328 :: u329 :: u330 :: u331 :: u332 :: u333 :: u334 :: x335 :: x336 :: x337 :: x338 :: x339 :: x340 :: x341 :: x342 :: x343 :: x344 :: x345 :: x346 :: x347 :: x348 :: x349 :: x350 :: x351 :: x352 :: x353 :: x354 :: x355 :: x356 :: x357 :: x358 :: x359 :: x360 :: x361 :: x362 :: x363 :: x364 :: x365 :: x366 :: x367 :: x368 :: x369 :: x370 :: u371 :: u372 :: u373 :: u374 :: u375 :: u376 :: u377 :: u378 :: u379 :: u380 :: u381 :: u382 :: u383 :: u384 :: u385 :: u386 :: u387 :: u388 :: u389 :: u390 :: u391 :: u392 :: u393 :: u394 :: u395 :: u396 :: u397 :: u398 :: u399 :: u400 :: u401 :: u402 :: u403 :: u404 :: u405 :: u406 :: u407 :: u408 :: u409 :: u410 :: u411 :: u412 :: u413 :: u414 :: u415 :: u416 :: u417 :: u418 :: u419 :: u420 :: u421 :: u422 :: u423 :: u424 :: u425 :: u426 :: u427 :: u428 :: u429 :: u430 :: u431 :: u432 :: u433 :: u434 :: u435 :: u436 :: u437 :: u438 :: u439 :: u440 :: u441 :: u442 :: u443 :: u444 :: u445 :: u446 :: u447 :: u448 :: u449 :: u450 :: u451 :: u452 :: u453 :: u454 :: u455 :: u456 :: u457 :: u458 :: u459 :: u460 :: u461 :: u462 :: u463 :: u464 :: u465 :: u466 :: u467 :: u468 :: u469 :: u470 :: u471 :: u472 :: u473 :: u474 :: u475 :: u476 :: u477 :: u478 :: u479 :: u480 :: u481 :: u482 :: u483 :: u484 :: u485 :: u486 :: u487 :: u488 :: u489 :: u490 :: u491 :: u492 :: u493 :: u494 :: u495 :: u496 :: u497 :: u498 :: u499 :: u500 :: u501 :: u502 :: u503 :: u504 :: u505 :: u506 :: u507 :: u508 :: u509 :: u510 :: u511 :: u512 :: u513 :: u514 :: u515 :: u516 :: u517 :: u518 :: u519 :: u520 :: u521 :: u522 :: u523 :: u524 :: u525 :: u526 :: u527 :: u528 :: u529 :: u530 :: u531 :: u532 :: u533 :: u534 :: u535 :: u536 :: u537 :: u538 :: u539 :: u540 :: u541 :: u542 :: u543 :: u544 :: u545 :: u546 :: []), []⟩ wr)) :
    Code.wp Yba.prog (lpOf Yba.f3.body 9) Q ⟨List.toArray (u0 :: u1 :: u2 :: (.slice a3 l3 c3) :: u4 :: u5 :: u6 :: u7 :: u8 :: u9 :: u10 :: u11 :: u12 :: u13 :: u14 :: u15 :: u16 :: u17 :: u18 :: u19 :: u20 :: u21 :: u22 :: u23 :: u24 :: u25 :: u26 :: u27 :: u28 :: u29 :: u30 :: u31 :: u32 :: u33 :: u34 :: u35 :: u36 :: u37 :: (.string (kb m)) :: u39 :: u40 :: u41 :: u42 :: u43 :: u44 :: u45 :: u46 :: u47 :: u48 :: u49 :: u50 :: (.int .i64 s0) :: u52 :: u53 :: u54 :: u55 :: u56 :: (.int .i64 st) :: u58 :: u59 :: u60 :: u61 :: u62 :: u63 :: u64 :: u65 :: u66 :: u67 :: u68 :: u69 :: u70 :: u71 :: u72 :: u73 :: u74 :: u75 :: u76 :: u77 :: u78 :: u79 :: u80 :: u81 :: u82 :: u83 :: u84 :: u85 :: u86 :: u87 :: u88 :: u89 :: u90 :: u91 :: u92 :: u93 :: u94 :: u95 :: u96 :: u97 :: u98 :: u99 :: u100 :: u101 :: u102 :: u103 :: u104 :: u105 :: u106 :: u107 :: u108 :: u109 :: u110 :: u111 :: u112 :: u113 :: u114 :: u115 :: u116 :: u117 :: u118 :: u119 :: u120 :: u121 :: u122 :: u123 :: u124 :: u125 :: u126 :: u127 :: u128 :: u129 :: u130 :: u131 :: u132 :: u133 :: u134 :: u135 :: u136 :: u137 :: u138 :: u139 :: u140 :: u141 :: u142 :: u143 :: u144 :: u145 :: u146 :: u147 :: u148 :: u149 :: u150 :: u151 :: u152 :: u153 :: u154 :: u155 :: u156 :: u157 :: u158 :: u159 :: u160 :: u161 :: u162 :: u163 :: u164 :: u165 :: u166 :: u167 :: u168 :: u169 :: u170 :: u171 :: u172 :: u173 :: u174 :: u175 :: u176 :: u177 :: u178 :: u179 :: u180 :: u181 :: u182 :: u183 :: u184 :: u185 :: u186 :: u187 :: u188 :: u189 :: u190 :: u191 :: u192 :: u193 :: u194 :: u195 :: u196 :: u197 :: u198 :: u199 :: u200 :: u201 :: u202 :: u203 :: u204 :: u205 :: u206 :: u207 :: u208 :: u209 :: u210 :: u211 :: u212 :: u213 :: u214 :: u215 :: u216 :: u217 :: u218 :: u219 :: u220 :: u221 :: u222 :: u223 :: u224 :: u225 :: u226 :: u227 :: u228 :: u229 :: u230 :: u231 :: u232 :: u233 :: u234 :: u235 :: u236 :: u237 :: u238 :: u239 :: u240 :: u241 :: u242 :: u243 :: u244 :: u245 :: u246 :: u247 :: u248 :: u249 :: u250 :: u251 :: u252 :: u253 :: u254 :: u255 :: u256 :: u257 :: u258 :: u259 :: u260 :: u261 :: u262 :: u263 :: u264 :: u265 :: u266 :: u267 :: u268 :: u269 :: u270 :: u271 :: u272 :: u273 :: u274 :: u275 :: u276 :: u277 :: u278 :: u279 :: u280 :: u281 :: u282 :: u283 :: u284 :: u285 :: u286 :: u287 :: u288 :: u289 :: u290 :: u291 :: u292 :: u293 :: u294 :: u295 :: u296 :: u297 :: u298 :: u299 :: u300 :: u301 :: u302 :: u303 :: u304 :: u305 :: u306 :: u307 :: u308 :: u309 :: u310 :: u311 :: u312 :: u313 :: u314 :: u315 :: u316 :: u317 :: u318 :: u319 :: u320 :: u321 :: u322 :: u323 :: u324 :: u325 :: u326 :: u327 :: u328 :: u329 :: u330 :: u331 :: u332 :: u333 :: u334 :: u335 :: u336 :: u337 :: u338 :: u339 :: u340 :: u341 :: u342 :: u343 :: u344 :: u345 :: u346 :: u347 :: u348 :: u349 :: u350 :: u351 :: u352 :: u353 :: u354 :: u355 :: u356 :: u357 :: u358 :: u359 :: u360 :: u361 :: u362 :: u363 :: u364 :: u365 :: u366 :: u367 :: u368 :: u369 :: u370 :: u371 :: u372 :: u373 :: u374 :: u375 :: u376 :: u377 :: u378 :: u379 :: u380 :: u381 :: u382 :: u383 :: u384 :: u385 :: u386 :: u387 :: u388 :: u389 :: u390 :: u391 :: u392 :: u393 :: u394 :: u395 :: u396 :: u397 :: u398 :: u399 :: u400 :: u401 :: u402 :: u403 :: u404 :: u405 :: u406 :: u407 :: u408 :: u409 :: u410 :: u411 :: u412 :: u413 :: u414 :: u415 :: u416 :: u417 :: u418 :: u419 :: u420 :: u421 :: u422 :: u423 :: u424 :: u425 :: u426 :: u427 :: u428 :: u429 :: u430 :: u431 :: u432 :: u433 :: u434 :: u435 :: u436 :: u437 :: u438 :: u439 :: u440 :: u441 :: u442 :: u443 :: u444 :: u445 :: u446 :: u447 :: u448 :: u449 :: u450 :: u451 :: u452 :: u453 :: u454 :: u455 :: u456 :: u457 :: u458 :: u459 :: u460 :: u461 :: u462 :: u463 :: u464 :: u465 :: u466 :: u467 :: u468 :: u469 :: u470 :: u471 :: u472 :: u473 :: u474 :: u475 :: u476 :: u477 :: u478 :: u479 :: u480 :: u481 :: u482 :: u483 :: u484 :: u485 :: u486 :: u487 :: u488 :: u489 :: u490 :: u491 :: u492 :: u493 :: u494 :: u495 :: u496 :: u497 :: u498 :: u499 :: u500 :: u501 :: u502 :: u503 :: u504 :: u505 :: u506 :: u507 :: u508 :: u509 :: u510 :: u511 :: u512 :: u513 :: u514 :: u515 :: u516 :: u517 :: u518 :: u519 :: u520 :: u521 :: u522 :: u523 :: u524 :: u525 :: u526 :: u527 :: u528 :: u529 :: u530 :: u531 :: u532 :: u533 :: u534 :: u535 :: u536 :: u537 :: u538 :: u539 :: u540 :: u541 :: u542 :: u543 :: u544 :: u545 :: u546 :: []), []⟩ w := by
  conv => arg 2; whnf
  go_loopw [51, 57] (fun s51 s57 wr => ∃ c : Nat, st + c ≤ l3 ∧ s57 = .int .i64 ((st + c : Nat) : Int) ∧ s51 = .int .i64 (sinceTo (kb m) (fun i => bb (f i % 6)) (fun i => bb (t i % 6)) rev s0 st c) ∧ Below w.heap.size w wr) (fun _ s57 _ => l3 - (intOf s57).toNat)
  case atStart => exact ⟨0, by omega, rfl, rfl, Below.refl _ _⟩
  case round =>
    obtain ⟨c, hk, rfl, rfl, hbr⟩ := hrel
    have HB := hidI hbr
    clear hbr
    obtain ⟨k, hkc⟩ : ∃ k, k = st + c := ⟨_, rfl⟩
    have HS : Hid (sinceTo (kb m) (fun i => bb (f i % 6)) (fun i => bb (t i % 6)) rev s0 st (c + 1) = upd (kb m) (bb (f (st + c) % 6)) (bb (t (st + c) % 6)) (rev (st + c)) (sinceTo (kb m) (fun i => bb (f i % 6)) (fun i => bb (t i % 6)) rev s0 st c)) := rfl
    rw [← hkc] at HS ⊢ hk
    have HKC := hidI hkc
    clear hkc
    by_cases hlt : k < l3
    · generalize sinceTo (kb m) (fun i => bb (f i % 6)) (fun i => bb (t i % 6)) rev s0 st c = S at HS ⊢
      obtain ⟨f0, f1, t0, t1, b3, o3, rfl, hb3, q0, q1, q2⟩ := hr.out k hlt
      have hsz : B0 ≤ w.heap.size := by have := hb.out.size; omega
      have r0 : wr.cell? ⟨b3, o3 + k * 3, none⟩ = some (.int .u8 (f k)) := by rw [HB.out.cell (p := ⟨b3, o3 + k * 3, none⟩) (by show b3 < w.heap.size; omega), hb.out.cell (p := ⟨b3, o3 + k * 3, none⟩) (by show b3 < B0; omega)]; exact q0
      have r1 : wr.cell? ⟨b3, o3 + k * 3 + 1, none⟩ = some (.int .u8 (t k)) := by rw [HB.out.cell (p := ⟨b3, o3 + k * 3 + 1, none⟩) (by show b3 < w.heap.size; omega), hb.out.cell (p := ⟨b3, o3 + k * 3 + 1, none⟩) (by show b3 < B0; omega)]; exact q1
      have r2 : wr.cell? ⟨b3, o3 + k * 3 + 2, none⟩ = some (.int .i64 (rev k)) := by rw [HB.out.cell (p := ⟨b3, o3 + k * 3 + 2, none⟩) (by show b3 < w.heap.size; omega), hb.out.cell (p := ⟨b3, o3 + k * 3 + 2, none⟩) (by show b3 < B0; omega)]; exact q2
      clear q0 q1 q2
      have hz : w.heap.size ≤ wr.heap.size := HB.out.size
      have F1 : Hid (0 ≤ f k ∧ f k ≤ 255) := ⟨f0, f1⟩
      have T1 : Hid (0 ≤ t k ∧ t k ≤ 255) := ⟨t0, t1⟩
      clear f0 f1 t0 t1
      generalize rev k = v1 at HS r2
      generalize f k = fk at HS r0 F1
      generalize t k = tk at HS r1 T1
      go_wp2_with fail
      refine (bound_any _ F1.out.1 F1.out.2 _).mono ?_
      rintro e w' ⟨rfl, rfl⟩
      go_wp2_with fail
      refine (bound_any _ T1.out.1 T1.out.2 _).mono ?_
      rintro e w' ⟨rfl, rfl⟩
      generalize bb (fk % 6) = F2 at HS ⊢
      generalize bb (tk % 6) = T2 at HS ⊢
      have hdone : ∀ (W : World) (S' : Int), Below w.heap.size w W → S' = upd (kb m) F2 T2 v1 S → (∃ c_1 : Nat, st + c_1 ≤ l3 ∧ Value.int IntKind.i64 ((k : Int) + 1) = .int .i64 ((st + c_1 : Nat) : Int) ∧ Value.int IntKind.i64 S' = .int .i64 (sinceTo (kb m) (fun i => bb (f i % 6)) (fun i => bb (t i % 6)) rev s0 st c_1) ∧ Below w.heap.size w W) ∧ l3 - (intOf (Value.int IntKind.i64 ((k : Int) + 1))).toNat < l3 - (intOf (Value.int IntKind.i64 (k : Int))).toNat := by
        intro W S' hW hS'
        have hkc := HKC.out
        refine ⟨⟨c + 1, by omega, by rw [hkc]; go_num, by rw [HS.out, hS'], hW⟩, by simp [intOf]; omega⟩
      have HD := hidI hdone
      have HB2 : Hid (Below w.heap.size w (wr.alloc (.cells #[.int .u8 fk, .int .u8 tk, .int .i64 v1] 50))) := HB.out.alloc hz _
      clear hdone HS
      cases h1 : Op.bytesLess (kb m).toList F2.toList
      · cases h2 : T2.toList.isEmpty
        · cases h3 : Op.bytesLess (kb m).toList T2.toList
          · go_wp2
            exact HD.out _ _ HB2.out (by simp [upd, within, h1, h2, h3])
          · by_cases h4 : S < v1
            · go_wp2
              exact HD.out _ _ HB2.out (by simp [upd, within, h1, h2, h3, h4])
            · go_wp2
              exact HD.out _ _ HB2.out (by rw [upd, if_pos (by simp [within, h1, h2, h3]), if_neg (by omega)])
        · by_cases h4 : S < v1
          · go_wp2
            exact HD.out _ _ HB2.out (by simp [upd, within, h1, h2, h4])
          · go_wp2
            exact HD.out _ _ HB2.out (by rw [upd, if_pos (by simp [within, h1, h2]), if_neg (by omega)])
      · go_wp2
        exact HD.out _ _ HB2.out (by simp [upd, within, h1])
    · obtain rfl : k = l3 := by omega
      obtain rfl : c = k - st := by have := HKC.out; omega
      clear HKC
      go_wp2
      exact hQ.out _ _ _ _ _ _ _ _ _ _ _ _ _ _ _ _ _ _ _ _ _ _ _ _ _ _ _ _ _ _ _ _ _ _ _ _ _ _ _ _ _ HB.out

end
end Go.Proofs.Ybulkbyo

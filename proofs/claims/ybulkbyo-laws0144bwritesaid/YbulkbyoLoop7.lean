/-
  Loop 7: what stood before.
  Typed by the prover of this seat (an AI agent); the frames' slots by a script of his.
-/
import Derived.Test.YbulkbyoPlain
namespace Go.Proofs.Ybulkbyo
open Go.RowKit Go.MapFn
set_option maxRecDepth 1000000
section
variable {u0 u1 u2 u3 u4 u5 u6 u7 u8 u9 u10 u11 u12 u13 u14 u15 u16 u17 u18 u19 u20 u21 u22 u23 u24 u25 u26 u27 u28 u29 u30 u31 u32 u33 u34 u35 u36 u37 u38 u39 u40 u41 u42 u43 u44 u45 u46 u47 u48 u49 u50 u51 u52 u53 u54 u55 u56 u57 u58 u59 u60 u61 u62 u63 u64 u65 u66 u67 u68 u69 u70 u71 u72 u73 u74 u75 u76 u77 u78 u79 u80 u81 u82 u83 u84 u85 u86 u87 u88 u89 u90 u91 u92 u93 u94 u95 u96 u97 u98 u99 u100 u101 u102 u103 u104 u105 u106 u107 u108 u109 u110 u111 u112 u113 u114 u115 u116 u117 u118 u119 u120 u121 u122 u123 u124 u125 u126 u127 u128 u129 u130 u131 u132 u133 u134 u135 u136 u137 u138 u139 u140 u141 u142 u143 u144 u145 u146 u147 u148 u149 u150 u151 u152 u153 u154 u155 u156 u157 u158 u159 u160 u161 u162 u163 u164 u165 u166 u167 u168 u169 u170 u171 u172 u173 u174 u175 u176 u177 u178 u179 u180 u181 u182 u183 u184 u185 u186 u187 u188 u189 u190 u191 u192 u193 u194 u195 u196 u197 u198 u199 u200 u201 u202 u203 u204 u205 u206 u207 u208 u209 u210 u211 u212 u213 u214 u215 u216 u217 u218 u219 u220 u221 u222 u223 u224 u225 u226 u227 u228 u229 u230 u231 u232 u233 u234 u235 u236 u237 u238 u239 u240 u241 u242 u243 u244 u245 u246 u247 u248 u249 u250 u251 u252 u253 u254 u255 u256 u257 u258 u259 u260 u261 u262 u263 u264 u265 u266 u267 u268 u269 u270 u271 u272 u273 u274 u275 u276 u277 u278 u279 u280 u281 u282 u283 u284 u285 u286 u287 u288 u289 u290 u291 u292 u293 u294 u295 u296 u297 u298 u299 u300 u301 u302 u303 u304 u305 u306 u307 u308 u309 u310 u311 u312 u313 u314 u315 u316 u317 u318 u319 u320 u321 u322 u323 u324 u325 u326 u327 u328 u329 u330 u331 u332 u333 u334 u335 u336 u337 u338 u339 u340 u341 u342 u343 u344 u345 u346 u347 u348 u349 u350 u351 u352 u353 u354 u355 u356 u357 u358 u359 u360 u361 u362 u363 u364 u365 u366 u367 u368 u369 u370 u371 u372 u373 u374 u375 u376 u377 u378 u379 u380 u381 u382 u383 u384 u385 u386 u387 u388 u389 u390 u391 u392 u393 u394 u395 u396 u397 u398 u399 u400 u401 u402 u403 u404 u405 u406 u407 u408 u409 u410 u411 u412 u413 u414 u415 u416 u417 u418 u419 u420 u421 u422 u423 u424 u425 u426 u427 u428 u429 u430 u431 u432 u433 u434 u435 u436 u437 u438 u439 u440 u441 u442 u443 u444 u445 u446 u447 u448 u449 u450 u451 u452 u453 u454 u455 u456 u457 u458 u459 u460 u461 u462 u463 u464 u465 u466 u467 u468 u469 u470 u471 u472 u473 u474 u475 u476 u477 u478 u479 u480 u481 u482 u483 u484 u485 u486 u487 u488 u489 u490 u491 u492 u493 u494 u495 u496 u497 u498 u499 u500 u501 u502 u503 u504 u505 u506 u507 u508 u509 u510 u511 u512 u513 u514 u515 u516 u517 u518 u519 u520 u521 u522 u523 u524 u525 u526 u527 u528 u529 u530 u531 u532 u533 u534 u535 u536 u537 u538 u539 u540 u541 u542 u543 u544 u545 u546 : Value}
variable {B0 T R W9 : Nat} {w0 w : World} {lv sn : Int} {v9 v11 v12 v13 v14 : Value} {rd : Int → Option Int} {wf : Int → Option Value} {sc : Int → Option Int} {sv : Int → Option Bool}
    {n9 : Nat} {fr tw : Nat → ByteArray} {rev : Nat → Int} {n12 : Nat} {xs12 : List Value} {n13 : Nat} {xs13 : List Value} {N : Nat}

/-- The zero write. -/
def Z61 : Value := .agg #[.slice none 0 0, .slice none 0 0, .bool false]
def rvF (rd : Int → Option Int) (k i : Nat) : Value := .int .i64 (if i < k then (rd i).getD 0 else 0)
def rokF {α : Type} (rd : Int → Option α) (k i : Nat) : Value := .bool (if i < k then (rd i).isSome else false)
def svF (sv : Int → Option Bool) (k i : Nat) : Value := .bool (if i < k then (sv i).getD false else false)
def wvF (wf : Int → Option Value) (k j : Nat) : Value := wcell (if j / 3 < k then (wf (j / 3 : Nat)).getD Z61 else Z61) (j % 3)

theorem getD_int (o : Option Int) : (o.map (Value.int .i64)).getD (.int .i64 0) = .int .i64 (o.getD 0) := by cases o <;> rfl
theorem getD_bool (o : Option Bool) : (o.map Value.bool).getD (.bool false) = .bool (o.getD false) := by cases o <;> rfl

/-- A write in the map, or none, laid open. -/
theorem write_open {w : World} {wf : Int → Option Value} (h : ∀ m v, 0 ≤ m → m < 5 → wf m = some v → WOk w v) {m : Int} (h0 : 0 ≤ m) (h1 : m < 5) :
    ∃ pa pl pc qa ql qc pd, (wf m).getD Z61 = .agg #[.slice pa pl pc, .slice qa ql qc, .bool pd] := by
  cases e : wf m with
  | none => exact ⟨none, 0, 0, none, 0, 0, false, rfl⟩
  | some v =>
    obtain ⟨k, x, d, s, t, rfl, hk, hx⟩ := h m v h0 h1 e
    rcases hk with ⟨rfl, _⟩ | ⟨g, c, rfl, _⟩ <;> rcases hx with ⟨rfl, _⟩ | ⟨g', c', rfl, _⟩ <;> exact ⟨_, _, _, _, _, _, _, rfl⟩

set_option maxHeartbeats 4000000 in
theorem loop7 (A : Nat) (Q : Exit → Act → World → Prop)
    (hA : B0 ≤ A) (hB0 : w0.heap.size = B0) (hst : Hid (St B0 w T R W9 lv sn v9 v11 v12 v13 v14 rd wf sc sv n9 fr tw rev n12 xs12 n13 xs13 N)) (har : Hid (Ar w A (rvF rd 0) (rokF rd 0) (wvF wf 0) (rokF wf 0) (svF sv 0))) (hb : Hid (Below B0 w0 w))
    (hQ : Hid (∀ (x45 x46 x47 x48 x49 x50 x255 x256 x257 x258 x259 x260 x261 x262 x263 x264 x265 x266 x267 x268 x269 x270 x271 x272 x273 x274 x275 x276 x277 x278 x279 x280 x281 x282 x283 x284 x285 x286 x287 x288 x289 x290 x291 x292 x293 x294 x295 x296 x297 x298 x299 : Value) (wr : World), St B0 wr T R W9 lv sn v9 v11 v12 v13 v14 rd wf sc sv n9 fr tw rev n12 xs12 n13 xs13 N ∧ Ar wr A (rvF rd 5) (rokF rd 5) (wvF wf 5) (rokF wf 5) (svF sv 5) ∧ Below B0 w0 wr → Q (.exit 12) ⟨List.toArray (u0 :: u1 :: u2 :: u3 :: u4 :: u5 :: u6 :: u7 :: u8 :: u9 :: u10 :: u11 :: u12 :: u13 :: u14 :: u15 :: u16 :: u17 :: u18 :: u19 :: u20 :: u21 :: u22 :: u23 :: (.pointer (some ⟨T, 0, none⟩)) :: u25 :: u26 :: u27 :: u28 :: u29 :: u30 :: u31 :: u32 :: u33 :: u34 :: u35 :: u36 :: u37 :: u38 :: u39 :: (.pointer (some ⟨A, 0, none⟩)) :: (.pointer (some ⟨A + 1, 0, none⟩)) :: (.pointer (some ⟨A + 2, 0, none⟩)) :: (.pointer (some ⟨A + 3, 0, none⟩)) :: (.pointer (some ⟨A + 4, 0, none⟩)) :: x45 :: x46 :: x47 :: x48 :: x49 :: x50 :: u51 :: u52 :: u53 :: u54 :: u55 :: u56 :: u57 :: u58 :: u59 :: u60 :: u61 :: u62 :: u63 :: u64 :: u65 :: u66 :: u67 :: u68 :: u69 :: u70 :: u71 :: u72 :: u73 :: u74 :: u75 :: u76 :: u77 :: u78 :: u79 :: u80 :: u81 :: u82 :: u83 :: u84 :: u85 :: u86 :: u87 :: u88 :: u89 :: u90 :: u91 :: u92 :: u93 :: u94 :: u95 :: u96 :: u97 :: u98 :: u99 :: u100 :: u101 :: u102 :: u103 :: u104 :: u105 :: u106 :: u107 :: u108 :: u109 :: u110 :: u111 :: u112 :: u113 :: u114 :: u115 :: u116 :: u117 :: u118 :: u119 :: u120 :: u121 :: u122 :: u123 :: u124 :: u125 :: u126 :: u127 :: u128 :: u129 :: u130 :: u131 :: u132 :: u133 :: u134 :: u135 :: u136 :: u137 :: u138 :: u139 :: u140 :: u141 :: u142 :: u143 :: u144 :: u145 :: u146 :: u147 :: u148 :: u149 :: u150 :: u151 :: u152 :: u153 :: u154 :: u155 :: u156 :: u157 :: u158 :: u159 :: u160 :: u161 :: u162 :: u163 :: u164 :: u165 :: u166 :: u167 :: u168 :: u169 :: u170 :: u171 :: u172 :: u173 :: u174 :: u175 :: u176 :: u177 :: u178 :: u179 :: u180 :: u181 :: u182 :: u183 :: u184 :: u185 :: u186 :: u187 :: u188 :: u189 :: u190 :: u191 :: u192 :: u193 :: u194 :: u195 :: u196 :: u197 :: u198 :: u199 :: u200 :: u201 :: u202 :: u203 :: u204 :: u205 :: u206 :: u207 :: u208 :: u209 :: u210 :: u211 :: u212 :: u213 :: u214 :: u215 :: u216 :: u217 :: u218 :: u219 :: u220 :: u221 :: u222 :: u223 :: u224 :: u225 :: u226 :: u227 :: u228 :: u229 :: u230 :: u231 :: u232 :: u233 :: u234 :: u235 :: u236 :: u237 :: u238 :: u239 :: u240 :: u241 :: u242 :: u243 :: u244 :: u245 :: u246 :: u247 :: u248 :: u249 :: u250 :: u251 :: u252 :: u253 :: u254 :: x255 :: x256 :: x257 :: x258 :: x259 :: x260 :: x261 :: x262 :: x263 :: x264 :: x265 :: x266 :: x267 :: x268 :: x269 :: x270 :: x271 :: x272 :: x273 :: x274 :: x275 :: x276 :: x277 :: x278 :: x279 :: x280 :: x281 :: x282 :: x283 :: x284 :: x285 :: x286 :: x287 :: x288 :: x289 :: x290 :: x291 :: x292 :: x293 :: x294 :: x295 :: x296 :: x297 :: x298 :: x299 :: u300 :: u301 :: u302 :: u303 :: u304 :: u305 :: u306 :: u307 :: u308 :: u309 :: u310 :: u311 :: u312 :: u313 :: u314 :: u315 :: u316 :: u317 :: u318 :: u319 :: u320 :: u321 :: u322 :: u323 :: u324 :: u325 :: u326 :: u327 :: u328 :: u329 :: u330 :: u331 :: u332 :: u333 :: u334 :: u335 :: u336 :: u337 :: u338 :: u339 :: u340 :: u341 :: u342 :: u343 :: u344 :: u345 :: u346 :: u347 :: u348 :: u349 :: u350 :: u351 :: u352 :: u353 :: u354 :: u355 :: u356 :: u357 :: u358 :: u359 :: u360 :: u361 :: u362 :: u363 :: u364 :: u365 :: u366 :: u367 :: u368 :: u369 :: u370 :: u371 :: u372 :: u373 :: u374 :: u375 :: u376 :: u377 :: u378 :: u379 :: u380 :: u381 :: u382 :: u383 :: u384 :: u385 :: u386 :: u387 :: u388 :: u389 :: u390 :: u391 :: u392 :: u393 :: u394 :: u395 :: u396 :: u397 :: u398 :: u399 :: u400 :: u401 :: u402 :: u403 :: u404 :: u405 :: u406 :: u407 :: u408 :: u409 :: u410 :: u411 :: u412 :: u413 :: u414 :: u415 :: u416 :: u417 :: u418 :: u419 :: u420 :: u421 :: u422 :: u423 :: u424 :: u425 :: u426 :: u427 :: u428 :: u429 :: u430 :: u431 :: u432 :: u433 :: u434 :: u435 :: u436 :: u437 :: u438 :: u439 :: u440 :: u441 :: u442 :: u443 :: u444 :: u445 :: u446 :: u447 :: u448 :: u449 :: u450 :: u451 :: u452 :: u453 :: u454 :: u455 :: u456 :: u457 :: u458 :: u459 :: u460 :: u461 :: u462 :: u463 :: u464 :: u465 :: u466 :: u467 :: u468 :: u469 :: u470 :: u471 :: u472 :: u473 :: u474 :: u475 :: u476 :: u477 :: u478 :: u479 :: u480 :: u481 :: u482 :: u483 :: u484 :: u485 :: u486 :: u487 :: u488 :: u489 :: u490 :: u491 :: u492 :: u493 :: u494 :: u495 :: u496 :: u497 :: u498 :: u499 :: u500 :: u501 :: u502 :: u503 :: u504 :: u505 :: u506 :: u507 :: u508 :: u509 :: u510 :: u511 :: u512 :: u513 :: u514 :: u515 :: u516 :: u517 :: u518 :: u519 :: u520 :: u521 :: u522 :: u523 :: u524 :: u525 :: u526 :: u527 :: u528 :: u529 :: u530 :: u531 :: u532 :: u533 :: u534 :: u535 :: u536 :: u537 :: u538 :: u539 :: u540 :: u541 :: u542 :: u543 :: u544 :: u545 :: u546 :: []), []⟩ wr)) :
    Code.wp Yba.prog (lpOf Yba.f3.body 6) Q ⟨List.toArray (u0 :: u1 :: u2 :: u3 :: u4 :: u5 :: u6 :: u7 :: u8 :: u9 :: u10 :: u11 :: u12 :: u13 :: u14 :: u15 :: u16 :: u17 :: u18 :: u19 :: u20 :: u21 :: u22 :: u23 :: (.pointer (some ⟨T, 0, none⟩)) :: u25 :: u26 :: u27 :: u28 :: u29 :: u30 :: u31 :: u32 :: u33 :: u34 :: u35 :: u36 :: u37 :: u38 :: u39 :: (.pointer (some ⟨A, 0, none⟩)) :: (.pointer (some ⟨A + 1, 0, none⟩)) :: (.pointer (some ⟨A + 2, 0, none⟩)) :: (.pointer (some ⟨A + 3, 0, none⟩)) :: (.pointer (some ⟨A + 4, 0, none⟩)) :: (.int .i64 0) :: u46 :: u47 :: u48 :: u49 :: u50 :: u51 :: u52 :: u53 :: u54 :: u55 :: u56 :: u57 :: u58 :: u59 :: u60 :: u61 :: u62 :: u63 :: u64 :: u65 :: u66 :: u67 :: u68 :: u69 :: u70 :: u71 :: u72 :: u73 :: u74 :: u75 :: u76 :: u77 :: u78 :: u79 :: u80 :: u81 :: u82 :: u83 :: u84 :: u85 :: u86 :: u87 :: u88 :: u89 :: u90 :: u91 :: u92 :: u93 :: u94 :: u95 :: u96 :: u97 :: u98 :: u99 :: u100 :: u101 :: u102 :: u103 :: u104 :: u105 :: u106 :: u107 :: u108 :: u109 :: u110 :: u111 :: u112 :: u113 :: u114 :: u115 :: u116 :: u117 :: u118 :: u119 :: u120 :: u121 :: u122 :: u123 :: u124 :: u125 :: u126 :: u127 :: u128 :: u129 :: u130 :: u131 :: u132 :: u133 :: u134 :: u135 :: u136 :: u137 :: u138 :: u139 :: u140 :: u141 :: u142 :: u143 :: u144 :: u145 :: u146 :: u147 :: u148 :: u149 :: u150 :: u151 :: u152 :: u153 :: u154 :: u155 :: u156 :: u157 :: u158 :: u159 :: u160 :: u161 :: u162 :: u163 :: u164 :: u165 :: u166 :: u167 :: u168 :: u169 :: u170 :: u171 :: u172 :: u173 :: u174 :: u175 :: u176 :: u177 :: u178 :: u179 :: u180 :: u181 :: u182 :: u183 :: u184 :: u185 :: u186 :: u187 :: u188 :: u189 :: u190 :: u191 :: u192 :: u193 :: u194 :: u195 :: u196 :: u197 :: u198 :: u199 :: u200 :: u201 :: u202 :: u203 :: u204 :: u205 :: u206 :: u207 :: u208 :: u209 :: u210 :: u211 :: u212 :: u213 :: u214 :: u215 :: u216 :: u217 :: u218 :: u219 :: u220 :: u221 :: u222 :: u223 :: u224 :: u225 :: u226 :: u227 :: u228 :: u229 :: u230 :: u231 :: u232 :: u233 :: u234 :: u235 :: u236 :: u237 :: u238 :: u239 :: u240 :: u241 :: u242 :: u243 :: u244 :: u245 :: u246 :: u247 :: u248 :: u249 :: u250 :: u251 :: u252 :: u253 :: u254 :: u255 :: u256 :: u257 :: u258 :: u259 :: u260 :: u261 :: u262 :: u263 :: u264 :: u265 :: u266 :: u267 :: u268 :: u269 :: u270 :: u271 :: u272 :: u273 :: u274 :: u275 :: u276 :: u277 :: u278 :: u279 :: u280 :: u281 :: u282 :: u283 :: u284 :: u285 :: u286 :: u287 :: u288 :: u289 :: u290 :: u291 :: u292 :: u293 :: u294 :: u295 :: u296 :: u297 :: u298 :: u299 :: u300 :: u301 :: u302 :: u303 :: u304 :: u305 :: u306 :: u307 :: u308 :: u309 :: u310 :: u311 :: u312 :: u313 :: u314 :: u315 :: u316 :: u317 :: u318 :: u319 :: u320 :: u321 :: u322 :: u323 :: u324 :: u325 :: u326 :: u327 :: u328 :: u329 :: u330 :: u331 :: u332 :: u333 :: u334 :: u335 :: u336 :: u337 :: u338 :: u339 :: u340 :: u341 :: u342 :: u343 :: u344 :: u345 :: u346 :: u347 :: u348 :: u349 :: u350 :: u351 :: u352 :: u353 :: u354 :: u355 :: u356 :: u357 :: u358 :: u359 :: u360 :: u361 :: u362 :: u363 :: u364 :: u365 :: u366 :: u367 :: u368 :: u369 :: u370 :: u371 :: u372 :: u373 :: u374 :: u375 :: u376 :: u377 :: u378 :: u379 :: u380 :: u381 :: u382 :: u383 :: u384 :: u385 :: u386 :: u387 :: u388 :: u389 :: u390 :: u391 :: u392 :: u393 :: u394 :: u395 :: u396 :: u397 :: u398 :: u399 :: u400 :: u401 :: u402 :: u403 :: u404 :: u405 :: u406 :: u407 :: u408 :: u409 :: u410 :: u411 :: u412 :: u413 :: u414 :: u415 :: u416 :: u417 :: u418 :: u419 :: u420 :: u421 :: u422 :: u423 :: u424 :: u425 :: u426 :: u427 :: u428 :: u429 :: u430 :: u431 :: u432 :: u433 :: u434 :: u435 :: u436 :: u437 :: u438 :: u439 :: u440 :: u441 :: u442 :: u443 :: u444 :: u445 :: u446 :: u447 :: u448 :: u449 :: u450 :: u451 :: u452 :: u453 :: u454 :: u455 :: u456 :: u457 :: u458 :: u459 :: u460 :: u461 :: u462 :: u463 :: u464 :: u465 :: u466 :: u467 :: u468 :: u469 :: u470 :: u471 :: u472 :: u473 :: u474 :: u475 :: u476 :: u477 :: u478 :: u479 :: u480 :: u481 :: u482 :: u483 :: u484 :: u485 :: u486 :: u487 :: u488 :: u489 :: u490 :: u491 :: u492 :: u493 :: u494 :: u495 :: u496 :: u497 :: u498 :: u499 :: u500 :: u501 :: u502 :: u503 :: u504 :: u505 :: u506 :: u507 :: u508 :: u509 :: u510 :: u511 :: u512 :: u513 :: u514 :: u515 :: u516 :: u517 :: u518 :: u519 :: u520 :: u521 :: u522 :: u523 :: u524 :: u525 :: u526 :: u527 :: u528 :: u529 :: u530 :: u531 :: u532 :: u533 :: u534 :: u535 :: u536 :: u537 :: u538 :: u539 :: u540 :: u541 :: u542 :: u543 :: u544 :: u545 :: u546 :: []), []⟩ w := by
  conv => arg 2; whnf
  go_loopw [45] (fun s45 wr => ∃ k : Nat, k ≤ 5 ∧ s45 = .int .i64 k ∧ St B0 wr T R W9 lv sn v9 v11 v12 v13 v14 rd wf sc sv n9 fr tw rev n12 xs12 n13 xs13 N ∧ Ar wr A (rvF rd k) (rokF rd k) (wvF wf k) (rokF wf k) (svF sv k) ∧ Below B0 w0 wr) (fun s45 _ => 5 - (intOf s45).toNat)
  case atStart => exact ⟨0, by omega, rfl, hst.out, har.out, hb.out⟩
  case round =>
    obtain ⟨k, hk, rfl, hs, ha, hbr⟩ := hrel
    have HS := hidI hs
    have HA := hidI ha
    have HB := hidI hbr
    clear hs ha hbr
    by_cases hlt : k < 5
    · have hsz : B0 ≤ wr.heap.size := by have := HB.out.size; omega
      have hT := HS.out.tx.lt
      have hk0 : (0 : Int) ≤ k := by omega
      have hk5 : (k : Int) < 5 := by omega
      have hw8 : IntKind.u8.wrap (k : Int) = k := by simp only [IntKind.wrap, IntKind.signed, IntKind.bits]; simp; omega
      have HK : Hid (∀ W, Calls Yba.prog 5 #[.int .u8 k] W fun e w' => e = .returned (.string (kb k)) ∧ w' = W) := fun W => by
        have := key_any k hk0 (by omega) W
        rwa [show (k : Int) % 5 = k by omega] at this
      have c8 := HS.out.tx.c8
      have hl1 := HS.out.reads.look_ok Yba.underlying29 (zero2 _) hk0 hk5
      rw [getD_int] at hl1
      have a0 := HA.out.rv.cell hlt
      have a1 := HA.out.rv.frozen k
      go_wp2_with fail
      refine (HK.out _).mono ?_
      rintro e w' ⟨rfl, rfl⟩
      go_upto_region 54 with fail
      have HS1 := hidI (HS.out.setOther (b := A) (j := k) (u := .int .i64 ((rd k).getD 0)) HA.out.rv.obj (by decide))
      have HA1 := hidI (HA.out.set0 hlt (.int .i64 ((rd k).getD 0)))
      have HB1 : Hid (Below B0 w0 _) := HB.out.setCell (p := ⟨A, k, none⟩) hA (.int .i64 ((rd k).getD 0))
      generalize World.setCell _ ⟨A, k, none⟩ _ = W1 at HS1 HA1 HB1 ⊢
      clear c8 hl1 a0 a1 HS HA HB
      have a0 := HA1.out.rok.cell hlt
      have a1 := HA1.out.rok.frozen k
      go_upto_region 55 with fail
      have HS2 := hidI (HS1.out.setOther (b := A + 1) (j := k) (u := .bool (rd k).isSome) HA1.out.rok.obj (by decide))
      have HA2 := hidI (HA1.out.set1 hlt (.bool (rd k).isSome))
      have HB2 : Hid (Below B0 w0 _) := HB1.out.setCell (p := ⟨A + 1, k, none⟩) (by show B0 ≤ A + 1; omega) (.bool (rd k).isSome)
      generalize World.setCell _ ⟨A + 1, k, none⟩ _ = W2 at HS2 HA2 HB2 ⊢
      clear a0 a1 HS1 HA1 HB1
      obtain ⟨pa, pl, pc, qa, ql, qc, pd, hv⟩ := write_open HS2.out.wok hk0 hk5
      have c10 := HS2.out.tx.c10
      have hl2 := HS2.out.writes.look_ok Yba.underlying30 (zero61 _) hk0 hk5
      rw [Option.map_id] at hl2
      rw [show (id (wf (k : Int))).getD (.agg #[.slice none 0 0, .slice none 0 0, .bool false]) = _ from hv] at hl2
      have HV := hidI hv
      clear hv
      have a0 := HA2.out.wv.cell (i := k * 3) (by omega)
      have a1 := HA2.out.wv.cell (i := k * 3 + 1) (by omega)
      have a2 := HA2.out.wv.cell (i := k * 3 + 2) (by omega)
      have b0 := HA2.out.wv.frozen (k * 3)
      have b1 := HA2.out.wv.frozen (k * 3 + 1)
      have b2 := HA2.out.wv.frozen (k * 3 + 2)
      have hA2 := HA2.out.wv.lt
      go_upto_region 57 with fail
      have HS3 := hidI ((((HS2.out.setOther (b := A + 2) (j := k * 3) (u := .slice pa pl pc) HA2.out.wv.obj (by decide)).setOther (b := A + 2) (j := k * 3 + 1) (u := .slice qa ql qc) (HA2.out.set2 (by omega) _).wv.obj (by decide)).setOther (b := A + 2) (j := k * 3 + 2) (u := .bool pd) ((HA2.out.set2 (by omega) _).set2 (by omega) _).wv.obj (by decide)).below ((Below.refl _ _).alloc (Nat.le_refl _) (.cells #[.slice pa pl pc, .slice qa ql qc, .bool pd] 61)))
      have HA3 := hidI ((((HA2.out.set2 (i := k * 3) (by omega) (.slice pa pl pc)).set2 (i := k * 3 + 1) (by omega) (.slice qa ql qc)).set2 (i := k * 3 + 2) (by omega) (.bool pd)).below ((Below.refl _ _).alloc (Nat.le_refl _) (.cells #[.slice pa pl pc, .slice qa ql qc, .bool pd] 61)))
      have HB3 : Hid (Below B0 w0 _) := (((HB2.out.setCell (p := ⟨A + 2, k * 3, none⟩) (by show B0 ≤ A + 2; omega) (.slice pa pl pc)).setCell (p := ⟨A + 2, k * 3 + 1, none⟩) (by show B0 ≤ A + 2; omega) (.slice qa ql qc)).setCell (p := ⟨A + 2, k * 3 + 2, none⟩) (by show B0 ≤ A + 2; omega) (.bool pd)).alloc (by have := HB2.out.size; simp; omega) (.cells #[.slice pa pl pc, .slice qa ql qc, .bool pd] 61)
      generalize World.alloc _ _ = W3 at HS3 HA3 HB3 ⊢
      clear a0 a1 a2 b0 b1 b2 hA2 c10 hl2 HS2 HA2 HB2
      have a0 := HA3.out.wok.cell hlt
      have a1 := HA3.out.wok.frozen k
      go_upto_region 58 with fail
      have HS4 := hidI (HS3.out.setOther (b := A + 3) (j := k) (u := .bool (wf k).isSome) HA3.out.wok.obj (by decide))
      have HA4 := hidI (HA3.out.set3 hlt (.bool (wf k).isSome))
      have HB4 : Hid (Below B0 w0 _) := HB3.out.setCell (p := ⟨A + 3, k, none⟩) (by show B0 ≤ A + 3; omega) (.bool (wf k).isSome)
      generalize World.setCell _ ⟨A + 3, k, none⟩ _ = W4 at HS4 HA4 HB4 ⊢
      clear a0 a1 HS3 HA3 HB3
      have c14 := HS4.out.tx.c14
      have hl3 := HS4.out.saved.look Yba.underlying43 (zero4 _) hk0 hk5
      rw [getD_bool] at hl3
      have a0 := HA4.out.sv.cell hlt
      have a1 := HA4.out.sv.frozen k
      have HS5 := hidI (HS4.out.setOther (b := A + 4) (j := k) (u := .bool ((sv k).getD false)) HA4.out.sv.obj (by decide))
      have HA5 : Hid (Ar (W4.setCell ⟨A + 4, k, none⟩ (.bool ((sv k).getD false))) A (rvF rd (k + 1)) (rokF rd (k + 1)) (wvF wf (k + 1)) (rokF wf (k + 1)) (svF sv (k + 1))) := by
        refine (HA4.out.set4 hlt (.bool ((sv k).getD false))).congr ?_ ?_ ?_ ?_ ?_
        · intro i hi
          by_cases e : i = k
          · subst e; simp [rvF]
          · have e1 : (i < k + 1) ↔ (i < k) := by omega
            simp [rvF, e, e1]
        · intro i hi
          by_cases e : i = k
          · subst e; simp [rokF]
          · have e1 : (i < k + 1) ↔ (i < k) := by omega
            simp [rokF, e, e1]
        · intro i hi
          have hv := HV.out
          by_cases e2 : i = k * 3 + 2
          · subst e2; simp [wvF, wcell, hv, show (k * 3 + 2) / 3 = k by omega, show (k * 3 + 2) % 3 = 2 by omega]
          · by_cases e1 : i = k * 3 + 1
            · subst e1; simp [wvF, wcell, hv, show (k * 3 + 1) / 3 = k by omega, show (k * 3 + 1) % 3 = 1 by omega]
            · by_cases e0 : i = k * 3
              · subst e0; simp [wvF, wcell, hv]
              · have e1' : (i / 3 < k + 1) ↔ (i / 3 < k) := by omega
                simp [wvF, e2, e1, e0, e1']
        · intro i hi
          by_cases e : i = k
          · subst e; simp [rokF]
          · have e1 : (i < k + 1) ↔ (i < k) := by omega
            simp [rokF, e, e1]
        · intro i hi
          by_cases e : i = k
          · subst e; simp [svF]
          · have e1 : (i < k + 1) ↔ (i < k) := by omega
            simp [svF, e, e1]
      have HB5 : Hid (Below B0 w0 _) := HB4.out.setCell (p := ⟨A + 4, k, none⟩) (by show B0 ≤ A + 4; omega) (.bool ((sv k).getD false))
      go_wp2
      exact ⟨⟨k + 1, by omega, by go_num, HS5.out, HA5.out, HB5.out⟩, by simp [intOf]; omega⟩
    · obtain rfl : k = 5 := by omega
      go_wp2
      exact hQ.out _ _ _ _ _ _ _ _ _ _ _ _ _ _ _ _ _ _ _ _ _ _ _ _ _ _ _ _ _ _ _ _ _ _ _ _ _ _ _ _ _ _ _ _ _ _ _ _ _ _ _ _ ⟨HS.out, HA.out, HB.out⟩

end
end Go.Proofs.Ybulkbyo

/-
  Loop 4: the earlier writes.
  Typed by the prover of this seat (an AI agent); the frames' slots by a script of his.
-/
import Derived.Test.YbulkbyoMain0
import Derived.Test.YbulkbyoOrders
namespace Go.Proofs.Ybulkbyo
open Go.RowKit Go.MapFn
set_option maxRecDepth 1000000
section
variable {u0 u1 u2 u3 u4 u5 u6 u7 u8 u9 u10 u11 u12 u13 u14 u15 u16 u17 u18 u19 u20 u21 u22 u23 u24 u25 u26 u27 u28 u29 u30 u31 u32 u33 u34 u35 u36 u37 u38 u39 u40 u41 u42 u43 u44 u45 u46 u47 u48 u49 u50 u51 u52 u53 u54 u55 u56 u57 u58 u59 u60 u61 u62 u63 u64 u65 u66 u67 u68 u69 u70 u71 u72 u73 u74 u75 u76 u77 u78 u79 u80 u81 u82 u83 u84 u85 u86 u87 u88 u89 u90 u91 u92 u93 u94 u95 u96 u97 u98 u99 u100 u101 u102 u103 u104 u105 u106 u107 u108 u109 u110 u111 u112 u113 u114 u115 u116 u117 u118 u119 u120 u121 u122 u123 u124 u125 u126 u127 u128 u129 u130 u131 u132 u133 u134 u135 u136 u137 u138 u139 u140 u141 u142 u143 u144 u145 u146 u147 u148 u149 u150 u151 u152 u153 u154 u155 u156 u157 u158 u159 u160 u161 u162 u163 u164 u165 u166 u167 u168 u169 u170 u171 u172 u173 u174 u175 u176 u177 u178 u179 u180 u181 u182 u183 u184 u185 u186 u187 u188 u189 u190 u191 u192 u193 u194 u195 u196 u197 u198 u199 u200 u201 u202 u203 u204 u205 u206 u207 u208 u209 u210 u211 u212 u213 u214 u215 u216 u217 u218 u219 u220 u221 u222 u223 u224 u225 u226 u227 u228 u229 u230 u231 u232 u233 u234 u235 u236 u237 u238 u239 u240 u241 u242 u243 u244 u245 u246 u247 u248 u249 u250 u251 u252 u253 u254 u255 u256 u257 u258 u259 u260 u261 u262 u263 u264 u265 u266 u267 u268 u269 u270 u271 u272 u273 u274 u275 u276 u277 u278 u279 u280 u281 u282 u283 u284 u285 u286 u287 u288 u289 u290 u291 u292 u293 u294 u295 u296 u297 u298 u299 u300 u301 u302 u303 u304 u305 u306 u307 u308 u309 u310 u311 u312 u313 u314 u315 u316 u317 u318 u319 u320 u321 u322 u323 u324 u325 u326 u327 u328 u329 u330 u331 u332 u333 u334 u335 u336 u337 u338 u339 u340 u341 u342 u343 u344 u345 u346 u347 u348 u349 u350 u351 u352 u353 u354 u355 u356 u357 u358 u359 u360 u361 u362 u363 u364 u365 u366 u367 u368 u369 u370 u371 u372 u373 u374 u375 u376 u377 u378 u379 u380 u381 u382 u383 u384 u385 u386 u387 u388 u389 u390 u391 u392 u393 u394 u395 u396 u397 u398 u399 u400 u401 u402 u403 u404 u405 u406 u407 u408 u409 u410 u411 u412 u413 u414 u415 u416 u417 u418 u419 u420 u421 u422 u423 u424 u425 u426 u427 u428 u429 u430 u431 u432 u433 u434 u435 u436 u437 u438 u439 u440 u441 u442 u443 u444 u445 u446 u447 u448 u449 u450 u451 u452 u453 u454 u455 u456 u457 u458 u459 u460 u461 u462 u463 u464 u465 u466 u467 u468 u469 u470 u471 u472 u473 u474 u475 u476 u477 u478 u479 u480 u481 u482 u483 u484 u485 u486 u487 u488 u489 u490 u491 u492 u493 u494 u495 u496 u497 u498 u499 u500 u501 u502 u503 u504 u505 u506 u507 u508 u509 u510 u511 u512 u513 u514 u515 u516 u517 u518 u519 u520 u521 u522 u523 u524 u525 u526 u527 u528 u529 u530 u531 u532 u533 u534 u535 u536 u537 u538 u539 u540 u541 u542 u543 u544 u545 u546 : Value}
variable {B0 T R W9 : Nat} {w0 w : World} {lv sn : Int} {v9 v11 v12 v13 v14 : Value} {rd : Int → Option Int} {wf : Int → Option Value} {sc : Int → Option Int} {sv : Int → Option Bool}
    {n9 : Nat} {fr tw : Nat → ByteArray} {rev : Nat → Int} {n12 : Nat} {xs12 : List Value} {n13 : Nat} {xs13 : List Value} {N : Nat}

/-- '[]byte(s)' and what it leaves. -/
theorem conv_bytes (w : World) (s : ByteArray) : ∃ v w', (convert 9 26 (.string s)).run Yba.prog w = .ok v w' ∧ BytesOk w' v s ∧ Below w.heap.size w w' ∧ w'.heap.size = w.heap.size + 1 ∧ ∃ a l c, v = .slice a l c := by
  refine ⟨_, _, Lib.run_convert_string_bytes w 9 26 5 s Yba.underlying9 Yba.underlying26 Yba.underlying5, Or.inr ⟨w.heap.size, _, rfl, _, _, Lib.bytesWorld_at_new w 5 s, fun j hj => ?_⟩, ?_, Lib.bytesWorld_size w 5 s, _, _, _, rfl⟩
  · have := Lib.bytesWorld_cell w 5 s j hj
    unfold World.cell? at this
    rw [Lib.bytesWorld_at_new] at this
    simpa using this
  · refine ⟨rfl, ?_, rfl, ?_, fun k hk => Lib.bytesWorld_at_old w 5 s k hk⟩
    · simp [Lib.bytesWorld, World.freeze]
    · rw [Lib.bytesWorld_size]; omega

/-- A row of bytes that a conversion made, and a store into the map of writes behind it. -/
theorem St.writeConv {w1 : World} {k x : Value} {d : Bool} {s t : ByteArray} {m : Int} (h0 : 0 ≤ m) (h1 : m < 5) (hN : N ≤ 20000) (h : St B0 w T R W9 lv sn v9 v11 v12 v13 v14 rd wf sc sv n9 fr tw rev n12 xs12 n13 xs13 N) (hb : Below w.heap.size w w1) (hB : B0 ≤ w.heap.size) (hk : BytesOk w1 k s) (hx : BytesOk w1 x t) :
    ∃ w2 wf2, (Instr.mapUpdate 30 (.map (some W9)) (.string (kb m)) (.agg #[k, x, .bool d])).run Yba.prog w1 = .ok () w2 ∧ St B0 w2 T R W9 lv sn v9 v11 v12 v13 v14 rd wf2 sc sv n9 fr tw rev n12 xs12 n13 xs13 (N + 1) ∧ Below B0 w w2 ∧ (∀ (j : Nat) c t, w1.heap[j]? = some (.cells c t) → w2.heap[j]? = some (.cells c t)) := by
  have hs := h.below hb
  obtain ⟨w2, hrun, hk2, ht2⟩ := hs.writes.store Yba.underlying30 (by unfold maxLen; omega) h0 h1 (.agg #[k, x, .bool d])
  refine ⟨w2, _, hrun, hs.writesSet ht2 hk2 (fun j v j0 j1 e => ?_), (hb.mono hB).grown ht2.grown (by have := hb.size; omega) (fun k hk => by cases hk; exact h.base.2.1), fun j c t e => (turned_cells ht2 e).trans e⟩
  by_cases hj : j = m
  · simp only [hj, if_true] at e; cases e
    exact ⟨_, _, _, _, _, rfl, hk, hx⟩
  · simp only [hj, if_false] at e
    exact hs.wok j v j0 j1 e

set_option maxHeartbeats 4000000 in
theorem loop4 (a5 : Option Addr) (l5 c5 : Nat) (pk : Nat → Int) (pv : Nat → ByteArray) (pd : Nat → Bool) (Q : Exit → Act → World → Prop)
    (hl : (l5 : Int) ≤ 1024) (hN : N ≤ 10000) (hB0 : w0.heap.size = B0) (hr : Hid (IsPrior w0 a5 l5 pk pv pd)) (hst : Hid (St B0 w T R W9 lv sn v9 v11 v12 v13 v14 rd wf sc sv n9 fr tw rev n12 xs12 n13 xs13 N)) (hb : Hid (Below B0 w0 w))
    (hQ : Hid (∀ (x32 x33 x180 x181 x182 x183 x184 x185 x186 x187 x188 x189 x190 x191 x192 x193 x194 x195 x196 x197 x198 x199 x200 : Value) (wr : World) (wf' : Int → Option Value), St B0 wr T R W9 lv sn v9 v11 v12 v13 v14 rd wf' sc sv n9 fr tw rev n12 xs12 n13 xs13 (N + l5) ∧ Below B0 w0 wr → Q (.exit 6) ⟨List.toArray (u0 :: u1 :: u2 :: u3 :: u4 :: (.slice a5 l5 c5) :: u6 :: u7 :: u8 :: u9 :: u10 :: u11 :: u12 :: u13 :: u14 :: u15 :: u16 :: u17 :: u18 :: u19 :: u20 :: u21 :: u22 :: u23 :: (.pointer (some ⟨T, 0, none⟩)) :: u25 :: u26 :: u27 :: u28 :: u29 :: u30 :: u31 :: x32 :: x33 :: u34 :: u35 :: u36 :: u37 :: u38 :: u39 :: u40 :: u41 :: u42 :: u43 :: u44 :: u45 :: u46 :: u47 :: u48 :: u49 :: u50 :: u51 :: u52 :: u53 :: u54 :: u55 :: u56 :: u57 :: u58 :: u59 :: u60 :: u61 :: u62 :: u63 :: u64 :: u65 :: u66 :: u67 :: u68 :: u69 :: u70 :: u71 :: u72 :: u73 :: u74 :: u75 :: u76 :: u77 :: u78 :: u79 :: u80 :: u81 :: u82 :: u83 :: u84 :: u85 :: u86 :: u87 :: u88 :: u89 :: u90 :: u91 :: u92 :: u93 :: u94 :: u95 :: u96 :: u97 :: u98 :: u99 :: u100 :: u101 :: u102 :: u103 :: u104 :: u105 :: u106 :: u107 :: u108 :: u109 :: u110 :: u111 :: u112 :: u113 :: u114 :: u115 :: u116 :: u117 :: u118 :: u119 :: u120 :: u121 :: u122 :: u123 :: u124 :: u125 :: u126 :: u127 :: u128 :: u129 :: u130 :: u131 :: u132 :: u133 :: u134 :: u135 :: u136 :: u137 :: u138 :: u139 :: u140 :: u141 :: u142 :: u143 :: u144 :: u145 :: u146 :: u147 :: u148 :: u149 :: u150 :: u151 :: u152 :: u153 :: u154 :: u155 :: u156 :: u157 :: u158 :: u159 :: u160 :: u161 :: u162 :: u163 :: u164 :: u165 :: u166 :: u167 :: u168 :: u169 :: u170 :: u171 :: u172 :: u173 :: u174 :: u175 :: u176 :: u177 :: (.slice a5 l5 c5) :: (.int .i64 l5) :: x180 :: x181 :: x182 :: x183 :: x184 :: x185 :: x186 :: x187 :: x188 :: x189 :: x190 :: x191 :: x192 :: x193 :: x194 :: x195 :: x196 :: x197 :: x198 :: x199 :: x200 :: u201 :: u202 :: u203 :: u204 :: u205 :: u206 :: u207 :: u208 :: u209 :: u210 :: u211 :: u212 :: u213 :: u214 :: u215 :: u216 :: u217 :: u218 :: u219 :: u220 :: u221 :: u222 :: u223 :: u224 :: u225 :: u226 :: u227 :: u228 :: u229 :: u230 :: u231 :: u232 :: u233 :: u234 :: u235 :: u236 :: u237 :: u238 :: u239 :: u240 :: u241 :: u242 :: u243 :: u244 :: u245 :: u246 :: u247 :: u248 :: u249 :: u250 :: u251 :: u252 :: u253 :: u254 :: u255 :: u256 :: u257 :: u258 :: u259 :: u260 :: u261 :: u262 :: u263 :: u264 :: u265 :: u266 :: u267 :: u268 :: u269 :: u270 :: u271 :: u272 :: u273 :: u274 :: u275 :: u276 :: u277 :: u278 :: u279 :: u280 :: u281 :: u282 :: u283 :: u284 :: u285 :: u286 :: u287 :: u288 :: u289 :: u290 :: u291 :: u292 :: u293 :: u294 :: u295 :: u296 :: u297 :: u298 :: u299 :: u300 :: u301 :: u302 :: u303 :: u304 :: u305 :: u306 :: u307 :: u308 :: u309 :: u310 :: u311 :: u312 :: u313 :: u314 :: u315 :: u316 :: u317 :: u318 :: u319 :: u320 :: u321 :: u322 :: u323 :: u324 :: u325 :: u326 :: u327 :: u328 :: u329 :: u330 :: u331 :: u332 :: u333 :: u334 :: u335 :: u336 :: u337 :: u338 :: u339 :: u340 :: u341 :: u342 :: u343 :: u344 :: u345 :: u346 :: u347 :: u348 :: u349 :: u350 :: u351 :: u352 :: u353 :: u354 :: u355 :: u356 :: u357 :: u358 :: u359 :: u360 :: u361 :: u362 :: u363 :: u364 :: u365 :: u366 :: u367 :: u368 :: u369 :: u370 :: u371 :: u372 :: u373 :: u374 :: u375 :: u376 :: u377 :: u378 :: u379 :: u380 :: u381 :: u382 :: u383 :: u384 :: u385 :: u386 :: u387 :: u388 :: u389 :: u390 :: u391 :: u392 :: u393 :: u394 :: u395 :: u396 :: u397 :: u398 :: u399 :: u400 :: u401 :: u402 :: u403 :: u404 :: u405 :: u406 :: u407 :: u408 :: u409 :: u410 :: u411 :: u412 :: u413 :: u414 :: u415 :: u416 :: u417 :: u418 :: u419 :: u420 :: u421 :: u422 :: u423 :: u424 :: u425 :: u426 :: u427 :: u428 :: u429 :: u430 :: u431 :: u432 :: u433 :: u434 :: u435 :: u436 :: u437 :: u438 :: u439 :: u440 :: u441 :: u442 :: u443 :: u444 :: u445 :: u446 :: u447 :: u448 :: u449 :: u450 :: u451 :: u452 :: u453 :: u454 :: u455 :: u456 :: u457 :: u458 :: u459 :: u460 :: u461 :: u462 :: u463 :: u464 :: u465 :: u466 :: u467 :: u468 :: u469 :: u470 :: u471 :: u472 :: u473 :: u474 :: u475 :: u476 :: u477 :: u478 :: u479 :: u480 :: u481 :: u482 :: u483 :: u484 :: u485 :: u486 :: u487 :: u488 :: u489 :: u490 :: u491 :: u492 :: u493 :: u494 :: u495 :: u496 :: u497 :: u498 :: u499 :: u500 :: u501 :: u502 :: u503 :: u504 :: u505 :: u506 :: u507 :: u508 :: u509 :: u510 :: u511 :: u512 :: u513 :: u514 :: u515 :: u516 :: u517 :: u518 :: u519 :: u520 :: u521 :: u522 :: u523 :: u524 :: u525 :: u526 :: u527 :: u528 :: u529 :: u530 :: u531 :: u532 :: u533 :: u534 :: u535 :: u536 :: u537 :: u538 :: u539 :: u540 :: u541 :: u542 :: u543 :: u544 :: u545 :: u546 :: []), []⟩ wr)) :
    Code.wp Yba.prog (lpOf Yba.f3.body 3) Q ⟨List.toArray (u0 :: u1 :: u2 :: u3 :: u4 :: (.slice a5 l5 c5) :: u6 :: u7 :: u8 :: u9 :: u10 :: u11 :: u12 :: u13 :: u14 :: u15 :: u16 :: u17 :: u18 :: u19 :: u20 :: u21 :: u22 :: u23 :: (.pointer (some ⟨T, 0, none⟩)) :: u25 :: u26 :: u27 :: u28 :: u29 :: u30 :: u31 :: u32 :: u33 :: u34 :: u35 :: u36 :: u37 :: u38 :: u39 :: u40 :: u41 :: u42 :: u43 :: u44 :: u45 :: u46 :: u47 :: u48 :: u49 :: u50 :: u51 :: u52 :: u53 :: u54 :: u55 :: u56 :: u57 :: u58 :: u59 :: u60 :: u61 :: u62 :: u63 :: u64 :: u65 :: u66 :: u67 :: u68 :: u69 :: u70 :: u71 :: u72 :: u73 :: u74 :: u75 :: u76 :: u77 :: u78 :: u79 :: u80 :: u81 :: u82 :: u83 :: u84 :: u85 :: u86 :: u87 :: u88 :: u89 :: u90 :: u91 :: u92 :: u93 :: u94 :: u95 :: u96 :: u97 :: u98 :: u99 :: u100 :: u101 :: u102 :: u103 :: u104 :: u105 :: u106 :: u107 :: u108 :: u109 :: u110 :: u111 :: u112 :: u113 :: u114 :: u115 :: u116 :: u117 :: u118 :: u119 :: u120 :: u121 :: u122 :: u123 :: u124 :: u125 :: u126 :: u127 :: u128 :: u129 :: u130 :: u131 :: u132 :: u133 :: u134 :: u135 :: u136 :: u137 :: u138 :: u139 :: u140 :: u141 :: u142 :: u143 :: u144 :: u145 :: u146 :: u147 :: u148 :: u149 :: u150 :: u151 :: u152 :: u153 :: u154 :: u155 :: u156 :: u157 :: u158 :: u159 :: u160 :: u161 :: u162 :: u163 :: u164 :: u165 :: u166 :: u167 :: u168 :: u169 :: u170 :: u171 :: u172 :: u173 :: u174 :: u175 :: u176 :: u177 :: (.slice a5 l5 c5) :: (.int .i64 l5) :: (.int .i64 0) :: u181 :: u182 :: u183 :: u184 :: u185 :: u186 :: u187 :: u188 :: u189 :: u190 :: u191 :: u192 :: u193 :: u194 :: u195 :: u196 :: u197 :: u198 :: u199 :: u200 :: u201 :: u202 :: u203 :: u204 :: u205 :: u206 :: u207 :: u208 :: u209 :: u210 :: u211 :: u212 :: u213 :: u214 :: u215 :: u216 :: u217 :: u218 :: u219 :: u220 :: u221 :: u222 :: u223 :: u224 :: u225 :: u226 :: u227 :: u228 :: u229 :: u230 :: u231 :: u232 :: u233 :: u234 :: u235 :: u236 :: u237 :: u238 :: u239 :: u240 :: u241 :: u242 :: u243 :: u244 :: u245 :: u246 :: u247 :: u248 :: u249 :: u250 :: u251 :: u252 :: u253 :: u254 :: u255 :: u256 :: u257 :: u258 :: u259 :: u260 :: u261 :: u262 :: u263 :: u264 :: u265 :: u266 :: u267 :: u268 :: u269 :: u270 :: u271 :: u272 :: u273 :: u274 :: u275 :: u276 :: u277 :: u278 :: u279 :: u280 :: u281 :: u282 :: u283 :: u284 :: u285 :: u286 :: u287 :: u288 :: u289 :: u290 :: u291 :: u292 :: u293 :: u294 :: u295 :: u296 :: u297 :: u298 :: u299 :: u300 :: u301 :: u302 :: u303 :: u304 :: u305 :: u306 :: u307 :: u308 :: u309 :: u310 :: u311 :: u312 :: u313 :: u314 :: u315 :: u316 :: u317 :: u318 :: u319 :: u320 :: u321 :: u322 :: u323 :: u324 :: u325 :: u326 :: u327 :: u328 :: u329 :: u330 :: u331 :: u332 :: u333 :: u334 :: u335 :: u336 :: u337 :: u338 :: u339 :: u340 :: u341 :: u342 :: u343 :: u344 :: u345 :: u346 :: u347 :: u348 :: u349 :: u350 :: u351 :: u352 :: u353 :: u354 :: u355 :: u356 :: u357 :: u358 :: u359 :: u360 :: u361 :: u362 :: u363 :: u364 :: u365 :: u366 :: u367 :: u368 :: u369 :: u370 :: u371 :: u372 :: u373 :: u374 :: u375 :: u376 :: u377 :: u378 :: u379 :: u380 :: u381 :: u382 :: u383 :: u384 :: u385 :: u386 :: u387 :: u388 :: u389 :: u390 :: u391 :: u392 :: u393 :: u394 :: u395 :: u396 :: u397 :: u398 :: u399 :: u400 :: u401 :: u402 :: u403 :: u404 :: u405 :: u406 :: u407 :: u408 :: u409 :: u410 :: u411 :: u412 :: u413 :: u414 :: u415 :: u416 :: u417 :: u418 :: u419 :: u420 :: u421 :: u422 :: u423 :: u424 :: u425 :: u426 :: u427 :: u428 :: u429 :: u430 :: u431 :: u432 :: u433 :: u434 :: u435 :: u436 :: u437 :: u438 :: u439 :: u440 :: u441 :: u442 :: u443 :: u444 :: u445 :: u446 :: u447 :: u448 :: u449 :: u450 :: u451 :: u452 :: u453 :: u454 :: u455 :: u456 :: u457 :: u458 :: u459 :: u460 :: u461 :: u462 :: u463 :: u464 :: u465 :: u466 :: u467 :: u468 :: u469 :: u470 :: u471 :: u472 :: u473 :: u474 :: u475 :: u476 :: u477 :: u478 :: u479 :: u480 :: u481 :: u482 :: u483 :: u484 :: u485 :: u486 :: u487 :: u488 :: u489 :: u490 :: u491 :: u492 :: u493 :: u494 :: u495 :: u496 :: u497 :: u498 :: u499 :: u500 :: u501 :: u502 :: u503 :: u504 :: u505 :: u506 :: u507 :: u508 :: u509 :: u510 :: u511 :: u512 :: u513 :: u514 :: u515 :: u516 :: u517 :: u518 :: u519 :: u520 :: u521 :: u522 :: u523 :: u524 :: u525 :: u526 :: u527 :: u528 :: u529 :: u530 :: u531 :: u532 :: u533 :: u534 :: u535 :: u536 :: u537 :: u538 :: u539 :: u540 :: u541 :: u542 :: u543 :: u544 :: u545 :: u546 :: []), []⟩ w := by
  conv => arg 2; whnf
  go_loopw [180] (fun s180 wr => ∃ (k : Nat) (wf' : Int → Option Value), k ≤ l5 ∧ s180 = .int .i64 k ∧ St B0 wr T R W9 lv sn v9 v11 v12 v13 v14 rd wf' sc sv n9 fr tw rev n12 xs12 n13 xs13 (N + k) ∧ Below B0 w0 wr) (fun s180 _ => l5 - (intOf s180).toNat)
  case atStart => exact ⟨0, _, by omega, rfl, hst.out, hb.out⟩
  case round =>
    obtain ⟨k, wf', hk, rfl, hs, hbr⟩ := hrel
    have HS := hidI hs
    have HB := hidI hbr
    clear hs hbr
    by_cases hlt : k < l5
    · obtain ⟨k0, k1, b2, o2, rfl, hb2, q0, q1, q2⟩ := hr.out k hlt
      have r0 : wr.cell? ⟨b2, o2 + k * 3, none⟩ = some (.int .u8 (pk k)) := by rw [HB.out.cell (p := ⟨b2, o2 + k * 3, none⟩) (by show b2 < B0; omega)]; exact q0
      have r1 : wr.cell? ⟨b2, o2 + k * 3 + 1, none⟩ = some (.string (pv k)) := by rw [HB.out.cell (p := ⟨b2, o2 + k * 3 + 1, none⟩) (by show b2 < B0; omega)]; exact q1
      have r2 : wr.cell? ⟨b2, o2 + k * 3 + 2, none⟩ = some (.bool (pd k)) := by rw [HB.out.cell (p := ⟨b2, o2 + k * 3 + 2, none⟩) (by show b2 < B0; omega)]; exact q2
      clear q0 q1 q2
      have hsz : B0 ≤ wr.heap.size := by have := HB.out.size; omega
      have hT := HS.out.tx.lt
      have c8 := HS.out.tx.c10
      have HBa : Hid (Below wr.heap.size wr ((wr.alloc (.cells #[.int .u8 (pk k), .string (pv k), .bool (pd k)] 59)).drew)) := ((Below.refl _ _).alloc (Nat.le_refl _) _).drew
      have hza : ((wr.alloc (.cells #[.int .u8 (pk k), .string (pv k), .bool (pd k)] 59)).drew).heap.size = wr.heap.size + 1 := by simp [World.drew]
      have hnew : ((wr.alloc (.cells #[.int .u8 (pk k), .string (pv k), .bool (pd k)] 59)).drew).heap[wr.heap.size]? = some (.cells #[.int .u8 (pk k), .string (pv k), .bool (pd k)] 59) := (MapKept.heap_alloc wr _).1
      have HSa := hidI (HS.out.below HBa.out)
      obtain ⟨kv1, wA, hcA, okA, bA, zA, _, _, _, eA⟩ := conv_bytes ((wr.alloc (.cells #[.int .u8 (pk k), .string (pv k), .bool (pd k)] 59)).drew) (kb (pk k % 5))
      obtain ⟨xv1, wB, hcB, oxB, bB, zB, _, _, _, eB⟩ := conv_bytes wA (pv k)
      obtain ⟨xv2, wC, hcC, oxC, bC, zC, _, _, _, eC⟩ := conv_bytes ((wr.alloc (.cells #[.int .u8 (pk k), .string (pv k), .bool (pd k)] 59)).drew) (pv k)
      obtain ⟨kv2, wD, hcD, okD, bD, zD, _, _, _, eD⟩ := conv_bytes wC (kb (pk k % 5))
      subst eA eB eC eD
      obtain ⟨wE, wf1, hrunE, HSE0, HBE0, kE⟩ := HSa.out.writeConv (d := pd k) (m := pk k % 5) (by omega) (by omega) (by omega) (bA.trans (bB.mono (by omega))) (by omega) (okA.keep (KeepB.of_below bB)) oxB
      obtain ⟨wF, wf2, hrunF, HSF0, HBF0, kF⟩ := HSa.out.writeConv (d := pd k) (m := pk k % 5) (by omega) (by omega) (by omega) (bC.trans (bD.mono (by omega))) (by omega) okD (oxC.keep (KeepB.of_below bD))
      have HSE := hidI HSE0
      have HSF := hidI HSF0
      have HBE : Hid (Below B0 w0 wE) := (HB.out.trans (HBa.out.mono hsz)).trans HBE0
      have HBF : Hid (Below B0 w0 wF) := (HB.out.trans (HBa.out.mono hsz)).trans HBF0
      have nA := (bA.block _ (by omega)).trans hnew
      have nB := (bB.block _ (by omega)).trans nA
      have nC := (bC.block _ (by omega)).trans hnew
      have nD := (bD.block _ (by omega)).trans nC
      have nE := kE _ _ _ nB
      have nF := kF _ _ _ nD
      have tA := (HSa.out.below bA).tx.c10
      have tB := ((HSa.out.below bA).below bB).tx.c10
      have tC := (HSa.out.below bC).tx.c10
      have tD := ((HSa.out.below bC).below bD).tx.c10
      have tE := HSE.out.tx.c10
      have tF := HSF.out.tx.c10
      have wA_1 : wA.cell? ⟨wr.heap.size, 1, none⟩ = some (.string (pv k)) := by unfold World.cell?; rw [nA]; rfl
      have wA_2 : wA.cell? ⟨wr.heap.size, 2, none⟩ = some (.bool (pd k)) := by unfold World.cell?; rw [nA]; rfl
      have wB_1 : wB.cell? ⟨wr.heap.size, 1, none⟩ = some (.string (pv k)) := by unfold World.cell?; rw [nB]; rfl
      have wB_2 : wB.cell? ⟨wr.heap.size, 2, none⟩ = some (.bool (pd k)) := by unfold World.cell?; rw [nB]; rfl
      have wC_1 : wC.cell? ⟨wr.heap.size, 1, none⟩ = some (.string (pv k)) := by unfold World.cell?; rw [nC]; rfl
      have wC_2 : wC.cell? ⟨wr.heap.size, 2, none⟩ = some (.bool (pd k)) := by unfold World.cell?; rw [nC]; rfl
      have wD_1 : wD.cell? ⟨wr.heap.size, 1, none⟩ = some (.string (pv k)) := by unfold World.cell?; rw [nD]; rfl
      have wD_2 : wD.cell? ⟨wr.heap.size, 2, none⟩ = some (.bool (pd k)) := by unfold World.cell?; rw [nD]; rfl
      have wE_1 : wE.cell? ⟨wr.heap.size, 1, none⟩ = some (.string (pv k)) := by unfold World.cell?; rw [nE]; rfl
      have wE_2 : wE.cell? ⟨wr.heap.size, 2, none⟩ = some (.bool (pd k)) := by unfold World.cell?; rw [nE]; rfl
      have wF_1 : wF.cell? ⟨wr.heap.size, 1, none⟩ = some (.string (pv k)) := by unfold World.cell?; rw [nF]; rfl
      have wF_2 : wF.cell? ⟨wr.heap.size, 2, none⟩ = some (.bool (pd k)) := by unfold World.cell?; rw [nF]; rfl
      clear HSE0 HSF0 HBE0 HBF0 kE kF nA nB nC nD nE nF bA bB bC bD zA zB zC zD okA oxB oxC okD hnew hza
      go_wp2_with fail
      refine (key_any _ k0 k1 _).mono ?_
      rintro e w' ⟨rfl, rfl⟩
      go_wp2_with fail
      refine wp_region_noPanic ?_
      refine wp_region_X (fun w' => w'.cell? ⟨T, 10, none⟩ = some (.map (some W9)) ∧ w'.cell? ⟨wr.heap.size, 1, none⟩ = some (.string (pv k)) ∧ w'.cell? ⟨wr.heap.size, 2, none⟩ = some (.bool (pd k))) 13 (by kernel_rfl) ?_
      have hS : (fun w' : World => w'.cell? ⟨T, 10, none⟩ = some (.map (some W9)) ∧ w'.cell? ⟨wr.heap.size, 1, none⟩ = some (.string (pv k)) ∧ w'.cell? ⟨wr.heap.size, 2, none⟩ = some (.bool (pd k))) ((wr.alloc (.cells #[.int .u8 (pk k), .string (pv k), .bool (pd k)] 59)).drew) := ⟨by go_simp, by go_simp, by go_simp⟩
      refine wpAnyX_take (i := 0) (oi := { dst := some 187, op := Go.Op.move (Go.Operand.tmp 24), type := 28, pos := "zz_law_s0144b.go:83", after := #[], guard := none }) (v := (.pointer (some ⟨T, 0, none⟩))) rfl (by kernel_rfl) (by kernel_rfl) (by kernel_rfl) (by kernel_rfl) (fun _ _ _ h => h) (Or.inl ⟨by rfl, fun W hW => by obtain ⟨k1, k2, k3⟩ := hW; go_simp⟩) hS ?_
      simp only [Act.put, List.setIfInBounds_toArray, List.set_cons_zero, List.set_cons_succ]
      refine wpAnyX_take (i := 1) (oi := { dst := some 188, op := Go.Op.nilCheck (Go.Operand.tmp 187), type := 0, pos := "zz_law_s0144b.go:83", after := #[{ on := 0, ground := Go.Ground.data }], guard := none }) (v := (.pointer (some ⟨T, 0, none⟩))) rfl (by kernel_rfl) (by kernel_rfl) (by kernel_rfl) (by kernel_rfl) (fun _ _ _ h => h) (Or.inl ⟨by rfl, fun W hW => by obtain ⟨k1, k2, k3⟩ := hW; go_simp⟩) hS ?_
      simp only [Act.put, List.setIfInBounds_toArray, List.set_cons_zero, List.set_cons_succ]
      refine wpAnyX_take (i := 2) (oi := { dst := some 189, op := Go.Op.fieldAddr 45 (Go.Operand.tmp 188) 9, type := 0, pos := "zz_law_s0144b.go:83", after := #[{ on := 1, ground := Go.Ground.data }], guard := none }) (v := (.pointer (some ⟨T, 10, none⟩))) rfl (by kernel_rfl) (by kernel_rfl) (by kernel_rfl) (by kernel_rfl) (fun _ _ _ h => h) (Or.inl ⟨by rfl, fun W hW => by obtain ⟨k1, k2, k3⟩ := hW; go_simp⟩) hS ?_
      simp only [Act.put, List.setIfInBounds_toArray, List.set_cons_zero, List.set_cons_succ]
      refine wpAnyX_take (i := 3) (oi := { dst := some 190, op := Go.Op.load 30 (Go.Operand.tmp 189), type := 30, pos := "zz_law_s0144b.go:83", after := #[{ on := 2, ground := Go.Ground.data }], guard := none }) (v := (.map (some W9))) rfl (by kernel_rfl) (by kernel_rfl) (by kernel_rfl) (by kernel_rfl) (fun _ _ _ h => h) (Or.inl ⟨by rfl, fun W hW => by obtain ⟨k1, k2, k3⟩ := hW; go_simp⟩) hS ?_
      simp only [Act.put, List.setIfInBounds_toArray, List.set_cons_zero, List.set_cons_succ]
      refine wpAnyX_take (i := 4) (oi := { dst := some 191, op := Go.Op.move (Go.Operand.tmp 33), type := 9, pos := "zz_law_s0144b.go:83", after := #[], guard := none }) (v := (.string (kb (pk k % 5)))) rfl (by kernel_rfl) (by kernel_rfl) (by kernel_rfl) (by kernel_rfl) (fun _ _ _ h => h) (Or.inl ⟨by rfl, fun W hW => by obtain ⟨k1, k2, k3⟩ := hW; go_simp⟩) hS ?_
      simp only [Act.put, List.setIfInBounds_toArray, List.set_cons_zero, List.set_cons_succ]
      refine wpAnyX_take (i := 5) (oi := { dst := some 192, op := Go.Op.move (Go.Operand.tmp 33), type := 9, pos := "zz_law_s0144b.go:83", after := #[], guard := none }) (v := (.string (kb (pk k % 5)))) rfl (by kernel_rfl) (by kernel_rfl) (by kernel_rfl) (by kernel_rfl) (fun _ _ _ h => h) (Or.inl ⟨by rfl, fun W hW => by obtain ⟨k1, k2, k3⟩ := hW; go_simp⟩) hS ?_
      simp only [Act.put, List.setIfInBounds_toArray, List.set_cons_zero, List.set_cons_succ]
      refine wpAnyX_take (i := 7) (oi := { dst := some 194, op := Go.Op.fieldAddr 59 (Go.Operand.tmp 32) 1, type := 0, pos := "zz_law_s0144b.go:83", after := #[], guard := none }) (v := (.pointer (some ⟨wr.heap.size, 1, none⟩))) rfl (by kernel_rfl) (by kernel_rfl) (by kernel_rfl) (by kernel_rfl) (fun _ _ _ h => h) (Or.inl ⟨by rfl, fun W hW => by obtain ⟨k1, k2, k3⟩ := hW; go_simp⟩) hS ?_
      simp only [Act.put, List.setIfInBounds_toArray, List.set_cons_zero, List.set_cons_succ]
      refine wpAnyX_take (i := 8) (oi := { dst := some 195, op := Go.Op.load 9 (Go.Operand.tmp 194), type := 9, pos := "zz_law_s0144b.go:83", after := #[{ on := 7, ground := Go.Ground.data }], guard := none }) (v := (.string (pv k))) rfl (by kernel_rfl) (by kernel_rfl) (by kernel_rfl) (by kernel_rfl) (fun _ _ _ h => h) (Or.inl ⟨by rfl, fun W hW => by obtain ⟨k1, k2, k3⟩ := hW; go_simp⟩) hS ?_
      simp only [Act.put, List.setIfInBounds_toArray, List.set_cons_zero, List.set_cons_succ]
      refine wpAnyX_take (i := 10) (oi := { dst := some 197, op := Go.Op.fieldAddr 59 (Go.Operand.tmp 32) 2, type := 0, pos := "zz_law_s0144b.go:83", after := #[], guard := none }) (v := (.pointer (some ⟨wr.heap.size, 2, none⟩))) rfl (by kernel_rfl) (by kernel_rfl) (by kernel_rfl) (by kernel_rfl) (fun _ _ _ h => h) (Or.inl ⟨by rfl, fun W hW => by obtain ⟨k1, k2, k3⟩ := hW; go_simp⟩) hS ?_
      simp only [Act.put, List.setIfInBounds_toArray, List.set_cons_zero, List.set_cons_succ]
      refine wpAnyX_take (i := 11) (oi := { dst := some 198, op := Go.Op.load 4 (Go.Operand.tmp 197), type := 4, pos := "zz_law_s0144b.go:83", after := #[{ on := 10, ground := Go.Ground.data }], guard := none }) (v := (.bool (pd k))) rfl (by kernel_rfl) (by kernel_rfl) (by kernel_rfl) (by kernel_rfl) (fun _ _ _ h => h) (Or.inl ⟨by rfl, fun W hW => by obtain ⟨k1, k2, k3⟩ := hW; go_simp⟩) hS ?_
      simp only [Act.put, List.setIfInBounds_toArray, List.set_cons_zero, List.set_cons_succ]
      refine wpAnyX_two (i := 6) (j := 9) (oi := { dst := some 193, op := Go.Op.convert 9 26 (Go.Operand.tmp 192), type := 26, pos := "zz_law_s0144b.go:83", after := #[{ on := 5, ground := Go.Ground.data }], guard := none }) (oj := { dst := some 196, op := Go.Op.convert 9 26 (Go.Operand.tmp 195), type := 26, pos := "zz_law_s0144b.go:83", after := #[{ on := 8, ground := Go.Ground.data }], guard := none }) (by kernel_rfl) rfl rfl (fun K hK => ?_) (fun K hK => ?_)
      · go_simp
        refine hK _ _ (fun _ => ⟨tA, wA_1, wA_2⟩) ?_
        clear hK K
        refine wpAnyX_one (i := 9) (o := { dst := some 196, op := Go.Op.convert 9 26 (Go.Operand.tmp 195), type := 26, pos := "zz_law_s0144b.go:83", after := #[{ on := 8, ground := Go.Ground.data }], guard := none }) (by kernel_rfl) rfl (fun K hK => ?_)
        go_simp
        refine hK _ _ (fun _ => ⟨tB, wB_1, wB_2⟩) ?_
        clear hK K
        refine wpAnyX_one (i := 12) (o := { dst := some 199, op := Go.Op.build 61 #[(0, Go.Operand.tmp 193), (1, Go.Operand.tmp 196), (2, Go.Operand.tmp 198)], type := 61, pos := "zz_law_s0144b.go:83", after := #[{ on := 6, ground := Go.Ground.data }, { on := 9, ground := Go.Ground.data }, { on := 11, ground := Go.Ground.data }], guard := none }) (by kernel_rfl) rfl (fun K hK => ?_)
        go_simp
        refine hK _ _ (fun _ => ⟨tB, wB_1, wB_2⟩) ?_
        clear hK K
        refine wpAnyX_one (i := 13) (o := { dst := none, op := Go.Op.mapUpdate 30 (Go.Operand.tmp 190) (Go.Operand.tmp 191) (Go.Operand.tmp 199), type := 0, pos := "zz_law_s0144b.go:83", after := #[{ on := 3, ground := Go.Ground.data }, { on := 4, ground := Go.Ground.data }, { on := 12, ground := Go.Ground.data }, { on := 0, ground := Go.Ground.phase }, { on := 1, ground := Go.Ground.phase }, { on := 2, ground := Go.Ground.phase }, { on := 3, ground := Go.Ground.phase }, { on := 4, ground := Go.Ground.phase }, { on := 5, ground := Go.Ground.phase }, { on := 6, ground := Go.Ground.phase }, { on := 7, ground := Go.Ground.phase }, { on := 8, ground := Go.Ground.phase }, { on := 9, ground := Go.Ground.phase }, { on := 10, ground := Go.Ground.phase }, { on := 11, ground := Go.Ground.phase }, { on := 12, ground := Go.Ground.phase }], guard := none }) (by kernel_rfl) rfl (fun K hK => ?_)
        go_simp
        refine hK _ _ (fun h => absurd rfl h) ?_
        clear hK K
        refine wpAnyX_done (by kernel_rfl) ?_ _
        refine NoPanic.normal ?_
        clear hS
        go_wp2
        exact ⟨⟨k + 1, _, by omega, by go_num, HSE.out, HBE.out⟩, by simp [intOf]; omega⟩
      · go_simp
        refine hK _ _ (fun _ => ⟨tC, wC_1, wC_2⟩) ?_
        clear hK K
        refine wpAnyX_one (i := 6) (o := { dst := some 193, op := Go.Op.convert 9 26 (Go.Operand.tmp 192), type := 26, pos := "zz_law_s0144b.go:83", after := #[{ on := 5, ground := Go.Ground.data }], guard := none }) (by kernel_rfl) rfl (fun K hK => ?_)
        go_simp
        refine hK _ _ (fun _ => ⟨tD, wD_1, wD_2⟩) ?_
        clear hK K
        refine wpAnyX_one (i := 12) (o := { dst := some 199, op := Go.Op.build 61 #[(0, Go.Operand.tmp 193), (1, Go.Operand.tmp 196), (2, Go.Operand.tmp 198)], type := 61, pos := "zz_law_s0144b.go:83", after := #[{ on := 6, ground := Go.Ground.data }, { on := 9, ground := Go.Ground.data }, { on := 11, ground := Go.Ground.data }], guard := none }) (by kernel_rfl) rfl (fun K hK => ?_)
        go_simp
        refine hK _ _ (fun _ => ⟨tD, wD_1, wD_2⟩) ?_
        clear hK K
        refine wpAnyX_one (i := 13) (o := { dst := none, op := Go.Op.mapUpdate 30 (Go.Operand.tmp 190) (Go.Operand.tmp 191) (Go.Operand.tmp 199), type := 0, pos := "zz_law_s0144b.go:83", after := #[{ on := 3, ground := Go.Ground.data }, { on := 4, ground := Go.Ground.data }, { on := 12, ground := Go.Ground.data }, { on := 0, ground := Go.Ground.phase }, { on := 1, ground := Go.Ground.phase }, { on := 2, ground := Go.Ground.phase }, { on := 3, ground := Go.Ground.phase }, { on := 4, ground := Go.Ground.phase }, { on := 5, ground := Go.Ground.phase }, { on := 6, ground := Go.Ground.phase }, { on := 7, ground := Go.Ground.phase }, { on := 8, ground := Go.Ground.phase }, { on := 9, ground := Go.Ground.phase }, { on := 10, ground := Go.Ground.phase }, { on := 11, ground := Go.Ground.phase }, { on := 12, ground := Go.Ground.phase }], guard := none }) (by kernel_rfl) rfl (fun K hK => ?_)
        go_simp
        refine hK _ _ (fun h => absurd rfl h) ?_
        clear hK K
        refine wpAnyX_done (by kernel_rfl) ?_ _
        refine NoPanic.normal ?_
        clear hS
        go_wp2
        exact ⟨⟨k + 1, _, by omega, by go_num, HSF.out, HBF.out⟩, by simp [intOf]; omega⟩
    · obtain rfl : k = l5 := by omega
      go_wp2
      exact hQ.out _ _ _ _ _ _ _ _ _ _ _ _ _ _ _ _ _ _ _ _ _ _ _ _ _ ⟨HS.out, HB.out⟩

end
end Go.Proofs.Ybulkbyo

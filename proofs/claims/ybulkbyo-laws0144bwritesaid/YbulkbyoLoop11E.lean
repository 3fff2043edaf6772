/-
  Loop 11, the round at another key that was not written.
  Typed by the prover of this seat (an AI agent); the frames' slots by a script of his.
-/
import Derived.Test.YbulkbyoLoop11A
namespace Go.Proofs.Ybulkbyo
open Go.RowKit Go.MapFn
set_option maxRecDepth 1000000
section
variable {u0 u1 u2 u3 u4 u5 u6 u7 u8 u9 u10 u11 u12 u13 u14 u15 u16 u17 u18 u19 u20 u21 u22 u23 u24 u25 u26 u27 u28 u29 u30 u31 u32 u33 u34 u35 u36 u37 u38 u39 u40 u41 u42 u43 u44 u45 u46 u47 u48 u49 u50 u51 u52 u53 u54 u55 u56 u57 u58 u59 u60 u61 u62 u63 u64 u65 u66 u67 u68 u69 u70 u71 u72 u73 u74 u75 u76 u77 u78 u79 u80 u81 u82 u83 u84 u85 u86 u87 u88 u89 u90 u91 u92 u93 u94 u95 u96 u97 u98 u99 u100 u101 u102 u103 u104 u105 u106 u107 u108 u109 u110 u111 u112 u113 u114 u115 u116 u117 u118 u119 u120 u121 u122 u123 u124 u125 u126 u127 u128 u129 u130 u131 u132 u133 u134 u135 u136 u137 u138 u139 u140 u141 u142 u143 u144 u145 u146 u147 u148 u149 u150 u151 u152 u153 u154 u155 u156 u157 u158 u159 u160 u161 u162 u163 u164 u165 u166 u167 u168 u169 u170 u171 u172 u173 u174 u175 u176 u177 u178 u179 u180 u181 u182 u183 u184 u185 u186 u187 u188 u189 u190 u191 u192 u193 u194 u195 u196 u197 u198 u199 u200 u201 u202 u203 u204 u205 u206 u207 u208 u209 u210 u211 u212 u213 u214 u215 u216 u217 u218 u219 u220 u221 u222 u223 u224 u225 u226 u227 u228 u229 u230 u231 u232 u233 u234 u235 u236 u237 u238 u239 u240 u241 u242 u243 u244 u245 u246 u247 u248 u249 u250 u251 u252 u253 u254 u255 u256 u257 u258 u259 u260 u261 u262 u263 u264 u265 u266 u267 u268 u269 u270 u271 u272 u273 u274 u275 u276 u277 u278 u279 u280 u281 u282 u283 u284 u285 u286 u287 u288 u289 u290 u291 u292 u293 u294 u295 u296 u297 u298 u299 u300 u301 u302 u303 u304 u305 u306 u307 u308 u309 u310 u311 u312 u313 u314 u315 u316 u317 u318 u319 u320 u321 u322 u323 u324 u325 u326 u327 u328 u329 u330 u331 u332 u333 u334 u335 u336 u337 u338 u339 u340 u341 u342 u343 u344 u345 u346 u347 u348 u349 u350 u351 u352 u353 u354 u355 u356 u357 u358 u359 u360 u361 u362 u363 u364 u365 u366 u367 u368 u369 u370 u371 u372 u373 u374 u375 u376 u377 u378 u379 u380 u381 u382 u383 u384 u385 u386 u387 u388 u389 u390 u391 u392 u393 u394 u395 u396 u397 u398 u399 u400 u401 u402 u403 u404 u405 u406 u407 u408 u409 u410 u411 u412 u413 u414 u415 u416 u417 u418 u419 u420 u421 u422 u423 u424 u425 u426 u427 u428 u429 u430 u431 u432 u433 u434 u435 u436 u437 u438 u439 u440 u441 u442 u443 u444 u445 u446 u447 u448 u449 u450 u451 u452 u453 u454 u455 u456 u457 u458 u459 u460 u461 u462 u463 u464 u465 u466 u467 u468 u469 u470 u471 u472 u473 u474 u475 u476 u477 u478 u479 u480 u481 u482 u483 u484 u485 u486 u487 u488 u489 u490 u491 u492 u493 u494 u495 u496 u497 u498 u499 u500 u501 u502 u503 u504 u505 u506 u507 u508 u509 u510 u511 u512 u513 u514 u515 u516 u517 u518 u519 u520 u521 u522 u523 u524 u525 u526 u527 u528 u529 u530 u531 u532 u533 u534 u535 u536 u537 u538 u539 u540 u541 u542 u543 u544 u545 u546 : Value}
variable {B0 T R W9 : Nat} {w0 w : World} {lv sn : Int} {v9 v11 v12 v13 v14 : Value} {rd : Int → Option Int} {wf : Int → Option Value} {sc : Int → Option Int} {sv : Int → Option Bool}
    {n9 : Nat} {fr tw : Nat → ByteArray} {rev : Nat → Int} {n12 : Nat} {xs12 : List Value} {n13 : Nat} {xs13 : List Value} {N : Nat}

set_option maxHeartbeats 4000000 in
theorem blk11d (A X : Nat) (m : Int) (ns : Nat) (since : Int) (rd' : Int → Option Int) (wf' : Int → Option Value) (sv' : Int → Option Bool) (k : Nat) (wr : World) (Q : Exit → Act → World → Prop) (hlt : k < 5) (HB : Hid (Below w.heap.size w wr))
    (hst : Hid (St B0 w T R W9 lv sn v9 v11 v12 v13 v14 rd' wf' sc sv' n9 fr tw rev n12 xs12 n13 xs13 N)) (har : Hid (Ar w A (rvF rd 5) (rokF rd 5) (wvF wf 5) (rokF wf 5) (svF sv 5)))
    (hwf2 : Hid (∀ j, j ≠ m → wf' j = wf j)) (hrd3 : Hid (∀ j, j ≠ m → rd' j = rd j)) (hsv : Hid (∀ j, 0 ≤ j → j < 5 → (sv' j).getD false = ((sv j).getD false || (decide (j = m) && decide (0 < ns))))) (hkm : ¬ (k : Int) = m)
    (ev : wf (k : Int) = none)
    (hQ : Hid (∀ (x22 x64 x65 x66 x67 x68 x69 x389 x390 x391 x392 x393 x394 x395 x396 x397 x398 x399 x400 x401 x402 x403 x404 x405 x406 x407 x408 x409 x410 x411 x412 x413 x414 x415 x416 x417 x418 x419 x420 x421 x422 x423 x424 x425 x426 x427 x428 x429 x430 x431 x432 x433 x434 x435 x436 x437 x438 x439 x440 x441 x442 x443 x444 x445 x446 x447 x448 x449 x450 x451 x452 x453 x454 x455 x456 x457 x458 x459 x460 x461 x462 x463 x464 x465 x466 x467 x468 x469 x470 x471 x472 x473 x474 x475 x476 x477 x478 x479 x480 x481 x482 x483 x484 x485 x486 x487 x488 x489 x490 x491 x492 x493 x494 x495 : Value) (W : World), Below w.heap.size w W → Q .normal ⟨List.toArray (u0 :: u1 :: u2 :: u3 :: u4 :: u5 :: u6 :: u7 :: u8 :: u9 :: u10 :: u11 :: u12 :: u13 :: u14 :: u15 :: u16 :: u17 :: u18 :: u19 :: u20 :: u21 :: x22 :: (.int .i64 lv) :: (.pointer (some ⟨T, 0, none⟩)) :: u25 :: u26 :: u27 :: u28 :: u29 :: u30 :: u31 :: u32 :: u33 :: (.int .i64 ns) :: u35 :: u36 :: u37 :: u38 :: (.int .i64 m) :: (.pointer (some ⟨A, 0, none⟩)) :: (.pointer (some ⟨A + 1, 0, none⟩)) :: (.pointer (some ⟨A + 2, 0, none⟩)) :: (.pointer (some ⟨A + 3, 0, none⟩)) :: (.pointer (some ⟨A + 4, 0, none⟩)) :: u45 :: u46 :: u47 :: u48 :: u49 :: u50 :: (.int .i64 since) :: u52 :: u53 :: u54 :: u55 :: u56 :: u57 :: u58 :: u59 :: u60 :: u61 :: (.pointer (some ⟨X, 0, none⟩)) :: (.int .i64 k) :: x64 :: x65 :: x66 :: x67 :: x68 :: x69 :: u70 :: u71 :: u72 :: u73 :: u74 :: u75 :: u76 :: u77 :: u78 :: u79 :: u80 :: u81 :: u82 :: u83 :: u84 :: u85 :: u86 :: u87 :: u88 :: u89 :: u90 :: u91 :: u92 :: u93 :: u94 :: u95 :: u96 :: u97 :: u98 :: u99 :: u100 :: u101 :: u102 :: u103 :: u104 :: u105 :: u106 :: u107 :: u108 :: u109 :: u110 :: u111 :: u112 :: u113 :: u114 :: u115 :: u116 :: u117 :: u118 :: u119 :: u120 :: u121 :: u122 :: u123 :: u124 :: u125 :: u126 :: u127 :: u128 :: u129 :: u130 :: u131 :: u132 :: u133 :: u134 :: u135 :: u136 :: u137 :: u138 :: u139 :: u140 :: u141 :: u142 :: u143 :: u144 :: u145 :: u146 :: u147 :: u148 :: u149 :: u150 :: u151 :: u152 :: u153 :: u154 :: u155 :: u156 :: u157 :: u158 :: u159 :: u160 :: u161 :: u162 :: u163 :: u164 :: u165 :: u166 :: u167 :: u168 :: u169 :: u170 :: u171 :: u172 :: u173 :: u174 :: u175 :: u176 :: u177 :: u178 :: u179 :: u180 :: u181 :: u182 :: u183 :: u184 :: u185 :: u186 :: u187 :: u188 :: u189 :: u190 :: u191 :: u192 :: u193 :: u194 :: u195 :: u196 :: u197 :: u198 :: u199 :: u200 :: u201 :: u202 :: u203 :: u204 :: u205 :: u206 :: u207 :: u208 :: u209 :: u210 :: u211 :: u212 :: u213 :: u214 :: u215 :: u216 :: u217 :: u218 :: u219 :: u220 :: u221 :: u222 :: u223 :: u224 :: u225 :: u226 :: u227 :: u228 :: u229 :: u230 :: u231 :: u232 :: u233 :: u234 :: u235 :: u236 :: u237 :: u238 :: u239 :: u240 :: u241 :: u242 :: u243 :: u244 :: u245 :: u246 :: u247 :: u248 :: u249 :: u250 :: u251 :: u252 :: u253 :: u254 :: u255 :: u256 :: u257 :: u258 :: u259 :: u260 :: u261 :: u262 :: u263 :: u264 :: u265 :: u266 :: u267 :: u268 :: u269 :: u270 :: u271 :: u272 :: u273 :: u274 :: u275 :: u276 :: u277 :: u278 :: u279 :: u280 :: u281 :: u282 :: u283 :: u284 :: u285 :: u286 :: u287 :: u288 :: u289 :: u290 :: u291 :: u292 :: u293 :: u294 :: u295 :: u296 :: u297 :: u298 :: u299 :: u300 :: u301 :: u302 :: u303 :: u304 :: u305 :: u306 :: u307 :: u308 :: u309 :: u310 :: u311 :: u312 :: u313 :: u314 :: u315 :: u316 :: u317 :: u318 :: u319 :: u320 :: u321 :: u322 :: u323 :: u324 :: u325 :: u326 :: u327 :: u328 :: u329 :: u330 :: u331 :: u332 :: u333 :: u334 :: u335 :: u336 :: u337 :: u338 :: u339 :: u340 :: u341 :: u342 :: u343 :: u344 :: u345 :: u346 :: u347 :: u348 :: u349 :: u350 :: u351 :: u352 :: u353 :: u354 :: u355 :: u356 :: u357 :: u358 :: u359 :: u360 :: u361 :: u362 :: u363 :: u364 :: u365 :: u366 :: u367 :: u368 :: u369 :: u370 :: u371 :: u372 :: u373 :: u374 :: u375 :: u376 :: u377 :: u378 :: u379 :: u380 :: u381 :: u382 :: u383 :: u384 :: u385 :: u386 :: u387 :: u388 :: x389 :: x390 :: x391 :: x392 :: x393 :: x394 :: x395 :: x396 :: x397 :: x398 :: x399 :: x400 :: x401 :: x402 :: x403 :: x404 :: x405 :: x406 :: x407 :: x408 :: x409 :: x410 :: x411 :: x412 :: x413 :: x414 :: x415 :: x416 :: x417 :: x418 :: x419 :: x420 :: x421 :: x422 :: x423 :: x424 :: x425 :: x426 :: x427 :: x428 :: x429 :: x430 :: x431 :: x432 :: x433 :: x434 :: x435 :: x436 :: x437 :: x438 :: x439 :: x440 :: x441 :: x442 :: x443 :: x444 :: x445 :: x446 :: x447 :: x448 :: x449 :: x450 :: x451 :: x452 :: x453 :: x454 :: x455 :: x456 :: x457 :: x458 :: x459 :: x460 :: x461 :: x462 :: x463 :: x464 :: x465 :: x466 :: x467 :: x468 :: x469 :: x470 :: x471 :: x472 :: x473 :: x474 :: x475 :: x476 :: x477 :: x478 :: x479 :: x480 :: x481 :: x482 :: x483 :: x484 :: x485 :: x486 :: x487 :: x488 :: x489 :: x490 :: x491 :: x492 :: x493 :: x494 :: x495 :: u496 :: u497 :: u498 :: u499 :: u500 :: u501 :: u502 :: u503 :: u504 :: u505 :: u506 :: u507 :: u508 :: u509 :: u510 :: u511 :: u512 :: u513 :: u514 :: u515 :: u516 :: u517 :: u518 :: u519 :: u520 :: u521 :: u522 :: u523 :: u524 :: u525 :: u526 :: u527 :: u528 :: u529 :: u530 :: u531 :: u532 :: u533 :: u534 :: u535 :: u536 :: u537 :: u538 :: u539 :: u540 :: u541 :: u542 :: u543 :: u544 :: u545 :: u546 :: []), []⟩ W)) :
    Code.wp Yba.prog (blkOf (lpOf Yba.f3.body 10)) Q ⟨List.toArray (u0 :: u1 :: u2 :: u3 :: u4 :: u5 :: u6 :: u7 :: u8 :: u9 :: u10 :: u11 :: u12 :: u13 :: u14 :: u15 :: u16 :: u17 :: u18 :: u19 :: u20 :: u21 :: u22 :: (.int .i64 lv) :: (.pointer (some ⟨T, 0, none⟩)) :: u25 :: u26 :: u27 :: u28 :: u29 :: u30 :: u31 :: u32 :: u33 :: (.int .i64 ns) :: u35 :: u36 :: u37 :: u38 :: (.int .i64 m) :: (.pointer (some ⟨A, 0, none⟩)) :: (.pointer (some ⟨A + 1, 0, none⟩)) :: (.pointer (some ⟨A + 2, 0, none⟩)) :: (.pointer (some ⟨A + 3, 0, none⟩)) :: (.pointer (some ⟨A + 4, 0, none⟩)) :: u45 :: u46 :: u47 :: u48 :: u49 :: u50 :: (.int .i64 since) :: u52 :: u53 :: u54 :: u55 :: u56 :: u57 :: u58 :: u59 :: u60 :: u61 :: (.pointer (some ⟨X, 0, none⟩)) :: (.int .i64 k) :: u64 :: u65 :: u66 :: u67 :: u68 :: u69 :: u70 :: u71 :: u72 :: u73 :: u74 :: u75 :: u76 :: u77 :: u78 :: u79 :: u80 :: u81 :: u82 :: u83 :: u84 :: u85 :: u86 :: u87 :: u88 :: u89 :: u90 :: u91 :: u92 :: u93 :: u94 :: u95 :: u96 :: u97 :: u98 :: u99 :: u100 :: u101 :: u102 :: u103 :: u104 :: u105 :: u106 :: u107 :: u108 :: u109 :: u110 :: u111 :: u112 :: u113 :: u114 :: u115 :: u116 :: u117 :: u118 :: u119 :: u120 :: u121 :: u122 :: u123 :: u124 :: u125 :: u126 :: u127 :: u128 :: u129 :: u130 :: u131 :: u132 :: u133 :: u134 :: u135 :: u136 :: u137 :: u138 :: u139 :: u140 :: u141 :: u142 :: u143 :: u144 :: u145 :: u146 :: u147 :: u148 :: u149 :: u150 :: u151 :: u152 :: u153 :: u154 :: u155 :: u156 :: u157 :: u158 :: u159 :: u160 :: u161 :: u162 :: u163 :: u164 :: u165 :: u166 :: u167 :: u168 :: u169 :: u170 :: u171 :: u172 :: u173 :: u174 :: u175 :: u176 :: u177 :: u178 :: u179 :: u180 :: u181 :: u182 :: u183 :: u184 :: u185 :: u186 :: u187 :: u188 :: u189 :: u190 :: u191 :: u192 :: u193 :: u194 :: u195 :: u196 :: u197 :: u198 :: u199 :: u200 :: u201 :: u202 :: u203 :: u204 :: u205 :: u206 :: u207 :: u208 :: u209 :: u210 :: u211 :: u212 :: u213 :: u214 :: u215 :: u216 :: u217 :: u218 :: u219 :: u220 :: u221 :: u222 :: u223 :: u224 :: u225 :: u226 :: u227 :: u228 :: u229 :: u230 :: u231 :: u232 :: u233 :: u234 :: u235 :: u236 :: u237 :: u238 :: u239 :: u240 :: u241 :: u242 :: u243 :: u244 :: u245 :: u246 :: u247 :: u248 :: u249 :: u250 :: u251 :: u252 :: u253 :: u254 :: u255 :: u256 :: u257 :: u258 :: u259 :: u260 :: u261 :: u262 :: u263 :: u264 :: u265 :: u266 :: u267 :: u268 :: u269 :: u270 :: u271 :: u272 :: u273 :: u274 :: u275 :: u276 :: u277 :: u278 :: u279 :: u280 :: u281 :: u282 :: u283 :: u284 :: u285 :: u286 :: u287 :: u288 :: u289 :: u290 :: u291 :: u292 :: u293 :: u294 :: u295 :: u296 :: u297 :: u298 :: u299 :: u300 :: u301 :: u302 :: u303 :: u304 :: u305 :: u306 :: u307 :: u308 :: u309 :: u310 :: u311 :: u312 :: u313 :: u314 :: u315 :: u316 :: u317 :: u318 :: u319 :: u320 :: u321 :: u322 :: u323 :: u324 :: u325 :: u326 :: u327 :: u328 :: u329 :: u330 :: u331 :: u332 :: u333 :: u334 :: u335 :: u336 :: u337 :: u338 :: u339 :: u340 :: u341 :: u342 :: u343 :: u344 :: u345 :: u346 :: u347 :: u348 :: u349 :: u350 :: u351 :: u352 :: u353 :: u354 :: u355 :: u356 :: u357 :: u358 :: u359 :: u360 :: u361 :: u362 :: u363 :: u364 :: u365 :: u366 :: u367 :: u368 :: u369 :: u370 :: u371 :: u372 :: u373 :: u374 :: u375 :: u376 :: u377 :: u378 :: u379 :: u380 :: u381 :: u382 :: u383 :: u384 :: u385 :: u386 :: u387 :: u388 :: u389 :: u390 :: u391 :: u392 :: u393 :: u394 :: u395 :: u396 :: u397 :: u398 :: u399 :: u400 :: u401 :: u402 :: u403 :: u404 :: u405 :: u406 :: u407 :: u408 :: u409 :: u410 :: u411 :: u412 :: u413 :: u414 :: u415 :: u416 :: u417 :: u418 :: u419 :: u420 :: u421 :: u422 :: u423 :: u424 :: u425 :: u426 :: u427 :: u428 :: u429 :: u430 :: u431 :: u432 :: u433 :: u434 :: u435 :: u436 :: u437 :: u438 :: u439 :: u440 :: u441 :: u442 :: u443 :: u444 :: u445 :: u446 :: u447 :: u448 :: u449 :: u450 :: u451 :: u452 :: u453 :: u454 :: u455 :: u456 :: u457 :: u458 :: u459 :: u460 :: u461 :: u462 :: u463 :: u464 :: u465 :: u466 :: u467 :: u468 :: u469 :: u470 :: u471 :: u472 :: u473 :: u474 :: u475 :: u476 :: u477 :: u478 :: u479 :: u480 :: u481 :: u482 :: u483 :: u484 :: u485 :: u486 :: u487 :: u488 :: u489 :: u490 :: u491 :: u492 :: u493 :: u494 :: u495 :: u496 :: u497 :: u498 :: u499 :: u500 :: u501 :: u502 :: u503 :: u504 :: u505 :: u506 :: u507 :: u508 :: u509 :: u510 :: u511 :: u512 :: u513 :: u514 :: u515 :: u516 :: u517 :: u518 :: u519 :: u520 :: u521 :: u522 :: u523 :: u524 :: u525 :: u526 :: u527 :: u528 :: u529 :: u530 :: u531 :: u532 :: u533 :: u534 :: u535 :: u536 :: u537 :: u538 :: u539 :: u540 :: u541 :: u542 :: u543 :: u544 :: u545 :: u546 :: []), []⟩ wr := by
  conv => arg 2; whnf
  have HS := hidI (hst.out.below HB.out)
  have HA := hidI (har.out.below HB.out)
  have hT := HS.out.tx.lt
  have hz : w.heap.size ≤ wr.heap.size := HB.out.size
  have hk0 : (0 : Int) ≤ k := by omega
  have hk5 : (k : Int) < 5 := by omega
  have hw8 : IntKind.u8.wrap (k : Int) = k := by simp only [IntKind.wrap, IntKind.signed, IntKind.bits]; simp; omega
  have HK : Hid (∀ W, Calls Yba.prog 5 #[.int .u8 k] W fun e w' => e = .returned (.string (kb k)) ∧ w' = W) := fun W => by
    have := key_any k hk0 (by omega) W
    rwa [show (k : Int) % 5 = k by omega] at this
  have c8 := HS.out.tx.c8
  have c10 := HS.out.tx.c10
  have hl2 := HS.out.writes.look_ok Yba.underlying30 (zero61 _) hk0 hk5
  rw [Option.map_id] at hl2
  have hl1 : ∀ o, (Instr.lookup 29 (.map (some R)) (.string (kb k)) true).run Yba.prog (wr.alloc o) = .ok (.tuple #[.int .i64 ((rd' k).getD 0), .bool (rd' k).isSome]) (wr.alloc o) := by
    intro o
    have := (HS.out.below ((Below.refl _ _).alloc (Nat.le_refl _) o)).reads.look_ok Yba.underlying29 (zero2 _) hk0 hk5
    rw [getD_int] at this
    exact this
  have HW : Hid (∀ W v, Below w.heap.size w W → wf' k = some v → WOk W v) := fun W v hW e => (hst.out.wok k v hk0 hk5 e).keep (KeepB.of_below hW)
  have hkb : ((k : Int) == m) = false := beq_eq_false_iff_ne.2 hkm
  have hr1 := hrd3.out _ hkm
  have ew := hwf2.out _ hkm
  simp only [hr1] at hl1
  clear hr1
  have a1 := HA.out.rok.cell hlt
  have a0 := HA.out.rv.cell hlt
  have a3 := HA.out.wok.cell hlt
  rw [rokF_five _ hlt] at a1 a3
  rw [rvF_five _ hlt] at a0
  have l0 := HA.out.rv.lt
  have l1 := HA.out.rok.lt
  have l2 := HA.out.wv.lt
  have l3 := HA.out.wok.lt
  rw [ev] at a3 ew
  simp only [id, ew, Option.getD_none, Option.isSome_none] at hl2 a3
  have HB2 : Hid (Below w.heap.size w (wr.alloc (.cells #[.slice none 0 0, .slice none 0 0, .bool false] 61))) := HB.out.alloc hz _
  clear ew ev HS HA HB HW
  go_wp2_with fail
  refine (HK.out _).mono ?_
  rintro e w' ⟨rfl, rfl⟩
  go_wp2_with fail
  go_quiet (fail)
  go_upto_region 102 with fail
  have HB3 : Hid (Below w.heap.size w _) := below_drewN HB2.out nq
  generalize World.drewN _ nq = W3 at HB3 ⊢
  clear HB2 a0 a1 a3 hl1 hl2 c8 c10
  have HSt := hidI (hst.out.below HB3.out)
  have HAt := hidI (har.out.below HB3.out)
  have s4 := HAt.out.sv.cell hlt
  rw [svF_five _ hlt] at s4
  have c14 := HSt.out.tx.c14
  have hl3 := HSt.out.saved.look Yba.underlying43 (zero4 _) hk0 hk5
  rw [getD_bool, hsv.out _ hk0 hk5] at hl3
  clear HSt HAt
  cases hsb : (sv (k : Int)).getD false
  · rw [hsb] at s4 hl3
    simp only [Bool.false_or, hkm, decide_false, Bool.false_and] at hl3
    go_wp2
    exact hQ.out _ _ _ _ _ _ _ _ _ _ _ _ _ _ _ _ _ _ _ _ _ _ _ _ _ _ _ _ _ _ _ _ _ _ _ _ _ _ _ _ _ _ _ _ _ _ _ _ _ _ _ _ _ _ _ _ _ _ _ _ _ _ _ _ _ _ _ _ _ _ _ _ _ _ _ _ _ _ _ _ _ _ _ _ _ _ _ _ _ _ _ _ _ _ _ _ _ _ _ _ _ _ _ _ _ _ _ _ _ _ _ _ _ _ _ HB3.out
  · rw [hsb] at s4 hl3
    simp only [Bool.true_or] at hl3
    go_wp2
    exact hQ.out _ _ _ _ _ _ _ _ _ _ _ _ _ _ _ _ _ _ _ _ _ _ _ _ _ _ _ _ _ _ _ _ _ _ _ _ _ _ _ _ _ _ _ _ _ _ _ _ _ _ _ _ _ _ _ _ _ _ _ _ _ _ _ _ _ _ _ _ _ _ _ _ _ _ _ _ _ _ _ _ _ _ _ _ _ _ _ _ _ _ _ _ _ _ _ _ _ _ _ _ _ _ _ _ _ _ _ _ _ _ _ _ _ _ _ HB3.out

end
end Go.Proofs.Ybulkbyo

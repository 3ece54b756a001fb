/-
  THE LAW's TEST OF THE LISTS OF WAITERS, WALKED (law B).
-/
import Derived.Test.YbulkdukmBPtr
namespace Go.Proofs.Ybulkdukm
open Go.RowKit
set_option linter.unusedVariables false

set_option maxRecDepth 100000 in
set_option maxHeartbeats 8000000 in
theorem p7 {u0 u1 u2 u3 u4 u5 u6 u7 u8 u9 u10 u12 u14 u15 u16 u17 u18 u19 u20 u21 u22 u23 u25 u26 u27 u28 u29 u30 u31 u33 u34 u36 u37 u38 u39 u40 u41 u42 u43 u44 u45 u46 u47 u48 u49 u50 u51 u52 u53 u54 u55 u56 u57 u58 u59 u60 u61 u62 u63 u64 u65 u66 u67 u68 u69 u70 u71 u72 u73 u74 u75 u76 u77 u78 u79 u80 u81 u82 u83 u84 u85 u86 u87 u88 u89 u90 u91 u92 u93 u94 u95 u96 u97 u98 u99 u100 u101 u102 u103 u104 u105 u106 u107 u108 u109 u110 u111 u112 u113 u114 u115 u116 u117 u118 u119 u120 u121 u122 u123 u124 u125 u126 u127 u128 u129 u130 u131 u132 u133 u134 u135 u136 u137 u138 u139 u140 u141 u142 u143 u144 u145 u146 u147 u148 u149 u150 u151 u152 u153 u154 u155 u156 u157 u158 u159 u160 u161 u162 u163 u164 u165 u166 u167 u168 u169 u170 u171 u172 u173 u174 u175 u176 u177 u178 u179 u180 u181 u182 u183 u184 u185 u186 u187 u188 u189 u190 u191 u192 u193 u194 u195 u196 u197 u198 u199 u200 u201 u202 u203 u204 u205 u206 u207 u208 u209 u210 u211 u212 u213 u214 u215 u216 u217 u218 u219 u220 u221 u222 u223 u224 u225 u226 u227 u228 u229 u230 u231 u232 u233 u234 u235 u236 u237 u238 u239 u240 u241 u242 u243 u244 u245 u246 u247 u248 u249 u250 u251 u252 u253 u254 u255 u256 u257 u258 u259 u260 u261 u262 u263 u264 u265 u266 u267 u268 u269 u270 u271 u272 u273 u274 u275 u276 u277 u278 u279 u280 u281 u282 u283 u284 u285 u286 u287 u288 u289 u290 u291 u292 u293 u294 u295 u296 u297 u298 u299 u300 u301 u302 u303 u304 u305 u306 u307 u308 u309 u310 u311 u312 u313 u314 u315 u316 u317 u318 u319 u320 u321 u322 u323 u324 u325 u326 u327 u328 u329 u330 u331 u332 u333 u334 u335 u336 u337 u338 u339 u340 u341 u342 u343 u344 u345 u346 u347 u348 u349 u350 u351 u352 u353 u354 u355 u356 u357 u358 u359 u360 u361 u362 u363 u364 u365 u366 u367 u368 u369 u370 u371 u372 u373 u374 u375 u376 u377 u378 u379 u380 u381 u382 u383 u384 u385 u386 u387 u388 u389 u390 u391 u392 u393 u394 u395 u396 u397 u398 u399 u400 u401 u402 u403 u404 u405 u406 u407 u408 u409 u410 u411 u412 u413 u414 u415 u416 u417 u418 u419 u420 u421 u422 u423 u424 u425 u426 u427 u428 u429 u430 u431 u432 u433 u434 u435 u436 u437 u438 u439 u440 u441 u442 u443 u444 u445 u446 u447 u448 u449 u450 u451 u452 u453 u454 u455 u456 u457 u458 u459 u460 u461 u462 u463 u464 u465 u466 u467 u468 u469 u470 u471 u472 u473 u474 u475 u476 u477 u478 u479 u480 u481 u482 u483 u484 u485 u486 u487 u488 u489 u490 u491 u492 u493 u494 u495 u496 u497 u498 u499 u500 u501 u502 u503 u504 u505 u506 u507 u508 u509 u510 u511 u512 u513 u514 u515 u516 u517 u518 u519 u520 u521 u522 u523 u524 u525 u526 u527 u528 u529 u530 u531 u532 u533 u534 u535 u536 u537 u538 u539 u540 u541 u542 u543 u544 u545 u546 u547 u548 u549 u550 u551 u552 u553 u554 u555 u556 u557 u558 u559 u560 u561 u562 u563 u564 u565 u566 u567 u568 u569 u570 u571 u572 : Value} (C : Code) (R : Ending → World → Prop) (w : World) (L : Lay) (q : Int) (ND WS WB t ti p lW lN : Nat) (s s2 : Sta) (g : Nat → List Nat) (a : Nat → Option Addr) (c : Nat → Nat) (G : List Nat) (aN : Option Addr) (cN : Nat) (aE aF : Option Addr) (cE cF : Nat)
    (h : S5 w L ND WS WB (L.nd t) lW lN g a c G aN cN aE aF cE cF s2) (he : Held L q t ti p s s2) (hnk : 0 < L.nk ∧ L.nk ≤ 4) (hln : 0 < L.n ∧ L.n ≤ 4097) (hnt : L.nd t < L.nk)
    (hC : ∀ (y10 y43 y44 y45 y46 y334 y335 y336 y337 y338 y339 y340 y341 y342 y343 y344 y345 y346 y347 y348 y349 y350 y351 y352 y353 y354 y355 y356 y357 y358 y359 y360 y361 y362 y363 y364 y365 y366 y367 y368 y369 y370 y371 y372 y373 y374 y375 y376 y377 y378 y379 y380 y381 y382 y383 y384 y385 y386 y387 y388 y389 y390 y391 y392 y393 y394 y395 y396 y397 y398 y399 y400 y401 y402 y403 : Value) (w' : World), Outside [] w w' → C.wp Yba.prog (bodyPost Yba.prog Yba.f4 R) { tmps := List.toArray (u0 :: u1 :: u2 :: u3 :: u4 :: u5 :: u6 :: u7 :: u8 :: u9 :: y10 :: (.int .i64 (L.nk : Int)) :: u12 :: (.slice (some ⟨ND, 0, none⟩) L.nk L.nk) :: u14 :: u15 :: u16 :: u17 :: u18 :: u19 :: u20 :: u21 :: u22 :: u23 :: (.slice (some ⟨WB, 0, none⟩) L.nk L.nk) :: u25 :: u26 :: u27 :: u28 :: u29 :: u30 :: u31 :: (.int .i64 (L.nd t : Int)) :: u33 :: u34 :: (.slice aE lW cE) :: u36 :: u37 :: u38 :: u39 :: u40 :: u41 :: u42 :: y43 :: y44 :: y45 :: y46 :: u47 :: u48 :: u49 :: u50 :: u51 :: u52 :: u53 :: u54 :: u55 :: u56 :: u57 :: u58 :: u59 :: u60 :: u61 :: u62 :: u63 :: u64 :: u65 :: u66 :: u67 :: u68 :: u69 :: u70 :: u71 :: u72 :: u73 :: u74 :: u75 :: u76 :: u77 :: u78 :: u79 :: u80 :: u81 :: u82 :: u83 :: u84 :: u85 :: u86 :: u87 :: u88 :: u89 :: u90 :: u91 :: u92 :: u93 :: u94 :: u95 :: u96 :: u97 :: u98 :: u99 :: u100 :: u101 :: u102 :: u103 :: u104 :: u105 :: u106 :: u107 :: u108 :: u109 :: u110 :: u111 :: u112 :: u113 :: u114 :: u115 :: u116 :: u117 :: u118 :: u119 :: u120 :: u121 :: u122 :: u123 :: u124 :: u125 :: u126 :: u127 :: u128 :: u129 :: u130 :: u131 :: u132 :: u133 :: u134 :: u135 :: u136 :: u137 :: u138 :: u139 :: u140 :: u141 :: u142 :: u143 :: u144 :: u145 :: u146 :: u147 :: u148 :: u149 :: u150 :: u151 :: u152 :: u153 :: u154 :: u155 :: u156 :: u157 :: u158 :: u159 :: u160 :: u161 :: u162 :: u163 :: u164 :: u165 :: u166 :: u167 :: u168 :: u169 :: u170 :: u171 :: u172 :: u173 :: u174 :: u175 :: u176 :: u177 :: u178 :: u179 :: u180 :: u181 :: u182 :: u183 :: u184 :: u185 :: u186 :: u187 :: u188 :: u189 :: u190 :: u191 :: u192 :: u193 :: u194 :: u195 :: u196 :: u197 :: u198 :: u199 :: u200 :: u201 :: u202 :: u203 :: u204 :: u205 :: u206 :: u207 :: u208 :: u209 :: u210 :: u211 :: u212 :: u213 :: u214 :: u215 :: u216 :: u217 :: u218 :: u219 :: u220 :: u221 :: u222 :: u223 :: u224 :: u225 :: u226 :: u227 :: u228 :: u229 :: u230 :: u231 :: u232 :: u233 :: u234 :: u235 :: u236 :: u237 :: u238 :: u239 :: u240 :: u241 :: u242 :: u243 :: u244 :: u245 :: u246 :: u247 :: u248 :: u249 :: u250 :: u251 :: u252 :: u253 :: u254 :: u255 :: u256 :: u257 :: u258 :: u259 :: u260 :: u261 :: u262 :: u263 :: u264 :: u265 :: u266 :: u267 :: u268 :: u269 :: u270 :: u271 :: u272 :: u273 :: u274 :: u275 :: u276 :: u277 :: u278 :: u279 :: u280 :: u281 :: u282 :: u283 :: u284 :: u285 :: u286 :: u287 :: u288 :: u289 :: u290 :: u291 :: u292 :: u293 :: u294 :: u295 :: u296 :: u297 :: u298 :: u299 :: u300 :: u301 :: u302 :: u303 :: u304 :: u305 :: u306 :: u307 :: u308 :: u309 :: u310 :: u311 :: u312 :: u313 :: u314 :: u315 :: u316 :: u317 :: u318 :: u319 :: u320 :: u321 :: u322 :: u323 :: u324 :: u325 :: u326 :: u327 :: u328 :: u329 :: u330 :: u331 :: u332 :: u333 :: y334 :: y335 :: y336 :: y337 :: y338 :: y339 :: y340 :: y341 :: y342 :: y343 :: y344 :: y345 :: y346 :: y347 :: y348 :: y349 :: y350 :: y351 :: y352 :: y353 :: y354 :: y355 :: y356 :: y357 :: y358 :: y359 :: y360 :: y361 :: y362 :: y363 :: y364 :: y365 :: y366 :: y367 :: y368 :: y369 :: y370 :: y371 :: y372 :: y373 :: y374 :: y375 :: y376 :: y377 :: y378 :: y379 :: y380 :: y381 :: y382 :: y383 :: y384 :: y385 :: y386 :: y387 :: y388 :: y389 :: y390 :: y391 :: y392 :: y393 :: y394 :: y395 :: y396 :: y397 :: y398 :: y399 :: y400 :: y401 :: y402 :: y403 :: u404 :: u405 :: u406 :: u407 :: u408 :: u409 :: u410 :: u411 :: u412 :: u413 :: u414 :: u415 :: u416 :: u417 :: u418 :: u419 :: u420 :: u421 :: u422 :: u423 :: u424 :: u425 :: u426 :: u427 :: u428 :: u429 :: u430 :: u431 :: u432 :: u433 :: u434 :: u435 :: u436 :: u437 :: u438 :: u439 :: u440 :: u441 :: u442 :: u443 :: u444 :: u445 :: u446 :: u447 :: u448 :: u449 :: u450 :: u451 :: u452 :: u453 :: u454 :: u455 :: u456 :: u457 :: u458 :: u459 :: u460 :: u461 :: u462 :: u463 :: u464 :: u465 :: u466 :: u467 :: u468 :: u469 :: u470 :: u471 :: u472 :: u473 :: u474 :: u475 :: u476 :: u477 :: u478 :: u479 :: u480 :: u481 :: u482 :: u483 :: u484 :: u485 :: u486 :: u487 :: u488 :: u489 :: u490 :: u491 :: u492 :: u493 :: u494 :: u495 :: u496 :: u497 :: u498 :: u499 :: u500 :: u501 :: u502 :: u503 :: u504 :: u505 :: u506 :: u507 :: u508 :: u509 :: u510 :: u511 :: u512 :: u513 :: u514 :: u515 :: u516 :: u517 :: u518 :: u519 :: u520 :: u521 :: u522 :: u523 :: u524 :: u525 :: u526 :: u527 :: u528 :: u529 :: u530 :: u531 :: u532 :: u533 :: u534 :: u535 :: u536 :: u537 :: u538 :: u539 :: u540 :: u541 :: u542 :: u543 :: u544 :: u545 :: u546 :: u547 :: u548 :: u549 :: u550 :: u551 :: u552 :: u553 :: u554 :: u555 :: u556 :: u557 :: u558 :: u559 :: u560 :: u561 :: u562 :: u563 :: u564 :: u565 :: u566 :: u567 :: u568 :: u569 :: u570 :: u571 :: u572 :: []), defers := [] } w') :
    (cutAt 1 (after 30 b4) C).wp Yba.prog (bodyPost Yba.prog Yba.f4 R) { tmps := List.toArray (u0 :: u1 :: u2 :: u3 :: u4 :: u5 :: u6 :: u7 :: u8 :: u9 :: u10 :: (.int .i64 (L.nk : Int)) :: u12 :: (.slice (some ⟨ND, 0, none⟩) L.nk L.nk) :: u14 :: u15 :: u16 :: u17 :: u18 :: u19 :: u20 :: u21 :: u22 :: u23 :: (.slice (some ⟨WB, 0, none⟩) L.nk L.nk) :: u25 :: u26 :: u27 :: u28 :: u29 :: u30 :: u31 :: (.int .i64 (L.nd t : Int)) :: u33 :: u34 :: (.slice aE lW cE) :: u36 :: u37 :: u38 :: u39 :: u40 :: u41 :: u42 :: u43 :: u44 :: u45 :: u46 :: u47 :: u48 :: u49 :: u50 :: u51 :: u52 :: u53 :: u54 :: u55 :: u56 :: u57 :: u58 :: u59 :: u60 :: u61 :: u62 :: u63 :: u64 :: u65 :: u66 :: u67 :: u68 :: u69 :: u70 :: u71 :: u72 :: u73 :: u74 :: u75 :: u76 :: u77 :: u78 :: u79 :: u80 :: u81 :: u82 :: u83 :: u84 :: u85 :: u86 :: u87 :: u88 :: u89 :: u90 :: u91 :: u92 :: u93 :: u94 :: u95 :: u96 :: u97 :: u98 :: u99 :: u100 :: u101 :: u102 :: u103 :: u104 :: u105 :: u106 :: u107 :: u108 :: u109 :: u110 :: u111 :: u112 :: u113 :: u114 :: u115 :: u116 :: u117 :: u118 :: u119 :: u120 :: u121 :: u122 :: u123 :: u124 :: u125 :: u126 :: u127 :: u128 :: u129 :: u130 :: u131 :: u132 :: u133 :: u134 :: u135 :: u136 :: u137 :: u138 :: u139 :: u140 :: u141 :: u142 :: u143 :: u144 :: u145 :: u146 :: u147 :: u148 :: u149 :: u150 :: u151 :: u152 :: u153 :: u154 :: u155 :: u156 :: u157 :: u158 :: u159 :: u160 :: u161 :: u162 :: u163 :: u164 :: u165 :: u166 :: u167 :: u168 :: u169 :: u170 :: u171 :: u172 :: u173 :: u174 :: u175 :: u176 :: u177 :: u178 :: u179 :: u180 :: u181 :: u182 :: u183 :: u184 :: u185 :: u186 :: u187 :: u188 :: u189 :: u190 :: u191 :: u192 :: u193 :: u194 :: u195 :: u196 :: u197 :: u198 :: u199 :: u200 :: u201 :: u202 :: u203 :: u204 :: u205 :: u206 :: u207 :: u208 :: u209 :: u210 :: u211 :: u212 :: u213 :: u214 :: u215 :: u216 :: u217 :: u218 :: u219 :: u220 :: u221 :: u222 :: u223 :: u224 :: u225 :: u226 :: u227 :: u228 :: u229 :: u230 :: u231 :: u232 :: u233 :: u234 :: u235 :: u236 :: u237 :: u238 :: u239 :: u240 :: u241 :: u242 :: u243 :: u244 :: u245 :: u246 :: u247 :: u248 :: u249 :: u250 :: u251 :: u252 :: u253 :: u254 :: u255 :: u256 :: u257 :: u258 :: u259 :: u260 :: u261 :: u262 :: u263 :: u264 :: u265 :: u266 :: u267 :: u268 :: u269 :: u270 :: u271 :: u272 :: u273 :: u274 :: u275 :: u276 :: u277 :: u278 :: u279 :: u280 :: u281 :: u282 :: u283 :: u284 :: u285 :: u286 :: u287 :: u288 :: u289 :: u290 :: u291 :: u292 :: u293 :: u294 :: u295 :: u296 :: u297 :: u298 :: u299 :: u300 :: u301 :: u302 :: u303 :: u304 :: u305 :: u306 :: u307 :: u308 :: u309 :: u310 :: u311 :: u312 :: u313 :: u314 :: u315 :: u316 :: u317 :: u318 :: u319 :: u320 :: u321 :: u322 :: u323 :: u324 :: u325 :: u326 :: u327 :: u328 :: u329 :: u330 :: u331 :: u332 :: u333 :: u334 :: u335 :: u336 :: u337 :: u338 :: u339 :: u340 :: u341 :: u342 :: u343 :: u344 :: u345 :: u346 :: u347 :: u348 :: u349 :: u350 :: u351 :: u352 :: u353 :: u354 :: u355 :: u356 :: u357 :: u358 :: u359 :: u360 :: u361 :: u362 :: u363 :: u364 :: u365 :: u366 :: u367 :: u368 :: u369 :: u370 :: u371 :: u372 :: u373 :: u374 :: u375 :: u376 :: u377 :: u378 :: u379 :: u380 :: u381 :: u382 :: u383 :: u384 :: u385 :: u386 :: u387 :: u388 :: u389 :: u390 :: u391 :: u392 :: u393 :: u394 :: u395 :: u396 :: u397 :: u398 :: u399 :: u400 :: u401 :: u402 :: u403 :: u404 :: u405 :: u406 :: u407 :: u408 :: u409 :: u410 :: u411 :: u412 :: u413 :: u414 :: u415 :: u416 :: u417 :: u418 :: u419 :: u420 :: u421 :: u422 :: u423 :: u424 :: u425 :: u426 :: u427 :: u428 :: u429 :: u430 :: u431 :: u432 :: u433 :: u434 :: u435 :: u436 :: u437 :: u438 :: u439 :: u440 :: u441 :: u442 :: u443 :: u444 :: u445 :: u446 :: u447 :: u448 :: u449 :: u450 :: u451 :: u452 :: u453 :: u454 :: u455 :: u456 :: u457 :: u458 :: u459 :: u460 :: u461 :: u462 :: u463 :: u464 :: u465 :: u466 :: u467 :: u468 :: u469 :: u470 :: u471 :: u472 :: u473 :: u474 :: u475 :: u476 :: u477 :: u478 :: u479 :: u480 :: u481 :: u482 :: u483 :: u484 :: u485 :: u486 :: u487 :: u488 :: u489 :: u490 :: u491 :: u492 :: u493 :: u494 :: u495 :: u496 :: u497 :: u498 :: u499 :: u500 :: u501 :: u502 :: u503 :: u504 :: u505 :: u506 :: u507 :: u508 :: u509 :: u510 :: u511 :: u512 :: u513 :: u514 :: u515 :: u516 :: u517 :: u518 :: u519 :: u520 :: u521 :: u522 :: u523 :: u524 :: u525 :: u526 :: u527 :: u528 :: u529 :: u530 :: u531 :: u532 :: u533 :: u534 :: u535 :: u536 :: u537 :: u538 :: u539 :: u540 :: u541 :: u542 :: u543 :: u544 :: u545 :: u546 :: u547 :: u548 :: u549 :: u550 :: u551 :: u552 :: u553 :: u554 :: u555 :: u556 :: u557 :: u558 :: u559 :: u560 :: u561 :: u562 :: u563 :: u564 :: u565 :: u566 :: u567 :: u568 :: u569 :: u570 :: u571 :: u572 :: []), defers := [] } w := by
  have HS := hide h
  have HE := hide he
  have HC := hide hC
  clear h he hC
  conv => arg 2; simp only [b4, Yba.f4, after, cutAt]
  go_wp2
  go_loopw [43] (fun jv wr => ∃ (j : Nat), j ≤ L.nk ∧ jv = .int .i64 (j : Int) ∧ Outside [] w wr) (fun jv _ => L.nk - (intOf jv).toNat)
  case atStart => exact ⟨0, Nat.zero_le _, rfl, Outside.refl _ _⟩
  case round =>
    obtain ⟨j, hj, rfl, hor⟩ := hrel
    have HOR := hide hor
    clear hor
    by_cases hjn : j < L.nk
    · have HS1 := hide (HS.out.outside HOR.out)
      have b0 := HS1.out.kb.cell hjn
      go_upto_if 345 with fail
      clear b0
      go_cut [44, 345] from 346 to 346 (fun v _ wx => ∃ (aX : Option Addr) (cX : Nat), v = .slice aX (s2.wl j).length cX ∧ Slc wr 46 1 aX (s2.wl j).length cX (pvs ((s2.wl j).map L.K)) ∧ wx = wr)
      case first =>
        by_cases hjt : j = L.nd t
        · have HJ := hide hjt
          have t0 : ((j : Int) == (L.nd t : Int)) = true := by rw [beq_iff_eq]; omega
          clear hjt
          go_wp2
          go_meet
          case rel =>
            have e1 := HS1.out.ew
            have e2 := HS1.out.hW
            rw [← HJ.out] at e1 e2
            rw [e2] at e1
            exact ⟨aE, cE, by rw [e2], e1, rfl⟩
        · have HJ := hide hjt
          have t0 : ((j : Int) == (L.nd t : Int)) = false := by rw [beq_eq_false_iff_ne]; omega
          clear hjt
          go_wp2
          go_meet
          case rel =>
            have e1 := HS1.out.kb.slc j hjn
            have e2 := HS1.out.hg j HJ.out
            rw [e2, List.length_map] at e1
            exact ⟨a j, c j, by rw [e2, List.length_map], e1, rfl⟩
      case rest =>
        obtain ⟨aX, cX, rfl, hX, rfl⟩ := hcut
        have HX := hide hX
        clear hX
        have d0 := HS1.out.nds_cell hjn
        have d1 := HS1.out.sys.n10 hjn
        have d2 := HS1.out.sys.q40 hjn
        have hl := HE.out.len j hjn
        go_wp2
        clear d0 d1 d2
        go_loopw [46] (fun kv wr2 => ∃ (k : Nat), k ≤ (s2.wl j).length ∧ kv = .int .i64 (k : Int) ∧ Outside [] wc wr2) (fun kv _ => (s2.wl j).length - (intOf kv).toNat)
        case atStart => exact ⟨0, Nat.zero_le _, rfl, Outside.refl _ _⟩
        case round =>
          obtain ⟨k, hk, rfl, hor⟩ := hrel
          have HOR2 := hide hor
          clear hor
          by_cases hkl : k < (s2.wl j).length
          · obtain ⟨x, hx⟩ : ∃ x, (s2.wl j)[k]? = some x := ⟨_, List.getElem?_eq_getElem hkl⟩
            have hxn := HE.out.mem j hjn x (List.mem_of_getElem? hx)
            have hsys := (HS1.out.outside HOR2.out).sys
            obtain ⟨gQ, oQ, hao, x1, x2⟩ := hsys.qx hjn hx
            obtain ⟨gX, oX, rfl, x3⟩ := (HX.out.outside HOR2.out (by simp)).px rfl hx
            have x4 := hsys.k9 hxn
            rw [HE.out.pos j hjn k x hx] at x4
            have e46 := neqB46 (some ⟨L.K x, 0, none⟩)
            have e29 := neqB29 (some ⟨L.K x, 9, none⟩)
            rw [hao]
            clear hsys hx hao
            go_wp2_with fail
            go_quiet (fail)
            go_wp2
            go_roundw
            case rel => exact ⟨k + 1, by omega, by go_num, HOR2.out.drewN nq⟩
            case measure => simp [intOf]; omega
          · obtain rfl : k = (s2.wl j).length := by omega
            go_wp2
            go_roundw
            case rel => exact ⟨j + 1, by omega, by go_num, HOR.out.trans HOR2.out⟩
            case measure => simp [intOf]; omega
    · obtain rfl : j = L.nk := by omega
      go_wp2
      apply unhide HC
      exact HOR.out

end Go.Proofs.Ybulkdukm

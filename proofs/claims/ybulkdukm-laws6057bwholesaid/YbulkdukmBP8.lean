/-
  THE LAW's TEST OF THE LIST OF NODES, WALKED (law B).
-/
import Derived.Test.YbulkdukmBPtr
namespace Go.Proofs.Ybulkdukm
open Go.RowKit
set_option linter.unusedVariables false

set_option maxRecDepth 100000 in
set_option maxHeartbeats 8000000 in
theorem p8 {u0 u1 u2 u3 u4 u5 u6 u7 u8 u9 u10 u11 u12 u14 u16 u17 u18 u19 u20 u21 u22 u23 u24 u25 u26 u27 u28 u29 u30 u35 u38 u39 u40 u41 u42 u43 u44 u45 u46 u47 u48 u49 u50 u51 u52 u53 u54 u55 u56 u57 u58 u59 u60 u61 u62 u63 u64 u65 u66 u67 u68 u69 u70 u71 u72 u73 u74 u75 u76 u77 u78 u79 u80 u81 u82 u83 u84 u85 u86 u87 u88 u89 u90 u91 u92 u93 u94 u95 u96 u97 u98 u99 u100 u101 u102 u103 u104 u105 u106 u107 u108 u109 u110 u111 u112 u113 u114 u115 u116 u117 u118 u119 u120 u121 u122 u123 u124 u125 u126 u127 u128 u129 u130 u131 u132 u133 u134 u135 u136 u137 u138 u139 u140 u141 u142 u143 u144 u145 u146 u147 u148 u149 u150 u151 u152 u153 u154 u155 u156 u157 u158 u159 u160 u161 u162 u163 u164 u165 u166 u167 u168 u169 u170 u171 u172 u173 u174 u175 u176 u177 u178 u179 u180 u181 u182 u183 u184 u185 u186 u187 u188 u189 u190 u191 u192 u193 u194 u195 u196 u197 u198 u199 u200 u201 u202 u203 u204 u205 u206 u207 u208 u209 u210 u211 u212 u213 u214 u215 u216 u217 u218 u219 u220 u221 u222 u223 u224 u225 u226 u227 u228 u229 u230 u231 u232 u233 u234 u235 u236 u237 u238 u239 u240 u241 u242 u243 u244 u245 u246 u247 u248 u249 u250 u251 u252 u253 u254 u255 u256 u257 u258 u259 u260 u261 u262 u263 u264 u265 u266 u267 u268 u269 u270 u271 u272 u273 u274 u275 u276 u277 u278 u279 u280 u281 u282 u283 u284 u285 u286 u287 u288 u289 u290 u291 u292 u293 u294 u295 u296 u297 u298 u299 u300 u301 u302 u303 u304 u305 u306 u307 u308 u309 u310 u311 u312 u313 u314 u315 u316 u317 u318 u319 u320 u321 u322 u323 u324 u325 u326 u327 u328 u329 u330 u331 u332 u333 u334 u335 u336 u337 u338 u339 u340 u341 u342 u343 u344 u345 u346 u347 u348 u349 u350 u351 u352 u353 u354 u355 u356 u357 u358 u359 u360 u361 u362 u363 u364 u365 u366 u367 u368 u369 u370 u371 u372 u373 u374 u375 u376 u377 u378 u379 u380 u381 u382 u383 u384 u385 u386 u387 u388 u389 u390 u391 u392 u393 u394 u395 u396 u397 u398 u399 u400 u401 u402 u403 u404 u405 u406 u407 u408 u409 u410 u411 u412 u413 u414 u415 u416 u417 u418 u419 u420 u421 u422 u423 u424 u425 u426 u427 u428 u429 u430 u431 u432 u433 u434 u435 u436 u437 u438 u439 u440 u441 u442 u443 u444 u445 u446 u447 u448 u449 u450 u451 u452 u453 u454 u455 u456 u457 u458 u459 u460 u461 u462 u463 u464 u465 u466 u467 u468 u469 u470 u471 u472 u473 u474 u475 u476 u477 u478 u479 u480 u481 u482 u483 u484 u485 u486 u487 u488 u489 u490 u491 u492 u493 u494 u495 u496 u497 u498 u499 u500 u501 u502 u503 u504 u505 u506 u507 u508 u509 u510 u511 u512 u513 u514 u515 u516 u517 u518 u519 u520 u521 u522 u523 u524 u525 u526 u527 u528 u529 u530 u531 u532 u533 u534 u535 u536 u537 u538 u539 u540 u541 u542 u543 u544 u545 u546 u547 u548 u549 u550 u551 u552 u553 u554 u555 u556 u557 u558 u559 u560 u561 u562 u563 u564 u565 u566 u567 u568 u569 u570 u571 u572 : Value} (C : Code) (R : Ending → World → Prop) (w : World) (L : Lay) (q : Int) (ND WS WB t ti p lW lN : Nat) (s s2 : Sta) (g : Nat → List Nat) (a : Nat → Option Addr) (c : Nat → Nat) (G : List Nat) (aN : Option Addr) (cN : Nat) (aE aF : Option Addr) (cE cF : Nat) (gone : Bool)
    (h : S5 w L ND WS WB (L.nd t) lW lN g a c G aN cN aE aF cE cF s2) (he : Held L q t ti p s s2) (hnk : 0 < L.nk ∧ L.nk ≤ 4) (hln : 0 < L.n ∧ L.n ≤ 4097) (htn : t < L.n) (hnt : L.nd t < L.nk)
    (hC : ∀ (y10 y47 y48 y404 y405 y406 y407 y408 y409 y410 y411 y412 y413 y414 y415 y416 y417 y418 y419 y420 y421 y422 y423 y424 y425 y426 y427 y428 y429 y430 y431 y432 y433 y434 y435 y436 y437 y438 y439 y440 y441 y442 y443 y444 y445 y446 y447 y448 y449 y450 y451 y452 y453 y454 y455 y456 y457 y458 y459 y460 y461 y462 y463 y464 y465 y466 y467 y468 y469 y470 y471 y472 y473 y474 y475 y476 : Value) (w' : World), Outside [] w w' → C.wp Yba.prog (bodyPost Yba.prog Yba.f4 R) { tmps := List.toArray (u0 :: u1 :: u2 :: u3 :: u4 :: u5 :: u6 :: u7 :: u8 :: u9 :: y10 :: u11 :: u12 :: (.slice (some ⟨ND, 0, none⟩) L.nk L.nk) :: u14 :: (.pointer (some ⟨L.GB, 0, none⟩)) :: u16 :: u17 :: u18 :: u19 :: u20 :: u21 :: u22 :: u23 :: u24 :: u25 :: u26 :: u27 :: u28 :: u29 :: u30 :: (.pointer (some ⟨L.K t, 0, none⟩)) :: (.int .i64 (L.nd t : Int)) :: (.int .i64 (ti : Int)) :: (.int .i64 (p : Int)) :: u35 :: (.slice aF lN cF) :: (.bool gone) :: u38 :: u39 :: u40 :: u41 :: u42 :: u43 :: u44 :: u45 :: u46 :: y47 :: y48 :: u49 :: u50 :: u51 :: u52 :: u53 :: u54 :: u55 :: u56 :: u57 :: u58 :: u59 :: u60 :: u61 :: u62 :: u63 :: u64 :: u65 :: u66 :: u67 :: u68 :: u69 :: u70 :: u71 :: u72 :: u73 :: u74 :: u75 :: u76 :: u77 :: u78 :: u79 :: u80 :: u81 :: u82 :: u83 :: u84 :: u85 :: u86 :: u87 :: u88 :: u89 :: u90 :: u91 :: u92 :: u93 :: u94 :: u95 :: u96 :: u97 :: u98 :: u99 :: u100 :: u101 :: u102 :: u103 :: u104 :: u105 :: u106 :: u107 :: u108 :: u109 :: u110 :: u111 :: u112 :: u113 :: u114 :: u115 :: u116 :: u117 :: u118 :: u119 :: u120 :: u121 :: u122 :: u123 :: u124 :: u125 :: u126 :: u127 :: u128 :: u129 :: u130 :: u131 :: u132 :: u133 :: u134 :: u135 :: u136 :: u137 :: u138 :: u139 :: u140 :: u141 :: u142 :: u143 :: u144 :: u145 :: u146 :: u147 :: u148 :: u149 :: u150 :: u151 :: u152 :: u153 :: u154 :: u155 :: u156 :: u157 :: u158 :: u159 :: u160 :: u161 :: u162 :: u163 :: u164 :: u165 :: u166 :: u167 :: u168 :: u169 :: u170 :: u171 :: u172 :: u173 :: u174 :: u175 :: u176 :: u177 :: u178 :: u179 :: u180 :: u181 :: u182 :: u183 :: u184 :: u185 :: u186 :: u187 :: u188 :: u189 :: u190 :: u191 :: u192 :: u193 :: u194 :: u195 :: u196 :: u197 :: u198 :: u199 :: u200 :: u201 :: u202 :: u203 :: u204 :: u205 :: u206 :: u207 :: u208 :: u209 :: u210 :: u211 :: u212 :: u213 :: u214 :: u215 :: u216 :: u217 :: u218 :: u219 :: u220 :: u221 :: u222 :: u223 :: u224 :: u225 :: u226 :: u227 :: u228 :: u229 :: u230 :: u231 :: u232 :: u233 :: u234 :: u235 :: u236 :: u237 :: u238 :: u239 :: u240 :: u241 :: u242 :: u243 :: u244 :: u245 :: u246 :: u247 :: u248 :: u249 :: u250 :: u251 :: u252 :: u253 :: u254 :: u255 :: u256 :: u257 :: u258 :: u259 :: u260 :: u261 :: u262 :: u263 :: u264 :: u265 :: u266 :: u267 :: u268 :: u269 :: u270 :: u271 :: u272 :: u273 :: u274 :: u275 :: u276 :: u277 :: u278 :: u279 :: u280 :: u281 :: u282 :: u283 :: u284 :: u285 :: u286 :: u287 :: u288 :: u289 :: u290 :: u291 :: u292 :: u293 :: u294 :: u295 :: u296 :: u297 :: u298 :: u299 :: u300 :: u301 :: u302 :: u303 :: u304 :: u305 :: u306 :: u307 :: u308 :: u309 :: u310 :: u311 :: u312 :: u313 :: u314 :: u315 :: u316 :: u317 :: u318 :: u319 :: u320 :: u321 :: u322 :: u323 :: u324 :: u325 :: u326 :: u327 :: u328 :: u329 :: u330 :: u331 :: u332 :: u333 :: u334 :: u335 :: u336 :: u337 :: u338 :: u339 :: u340 :: u341 :: u342 :: u343 :: u344 :: u345 :: u346 :: u347 :: u348 :: u349 :: u350 :: u351 :: u352 :: u353 :: u354 :: u355 :: u356 :: u357 :: u358 :: u359 :: u360 :: u361 :: u362 :: u363 :: u364 :: u365 :: u366 :: u367 :: u368 :: u369 :: u370 :: u371 :: u372 :: u373 :: u374 :: u375 :: u376 :: u377 :: u378 :: u379 :: u380 :: u381 :: u382 :: u383 :: u384 :: u385 :: u386 :: u387 :: u388 :: u389 :: u390 :: u391 :: u392 :: u393 :: u394 :: u395 :: u396 :: u397 :: u398 :: u399 :: u400 :: u401 :: u402 :: u403 :: y404 :: y405 :: y406 :: y407 :: y408 :: y409 :: y410 :: y411 :: y412 :: y413 :: y414 :: y415 :: y416 :: y417 :: y418 :: y419 :: y420 :: y421 :: y422 :: y423 :: y424 :: y425 :: y426 :: y427 :: y428 :: y429 :: y430 :: y431 :: y432 :: y433 :: y434 :: y435 :: y436 :: y437 :: y438 :: y439 :: y440 :: y441 :: y442 :: y443 :: y444 :: y445 :: y446 :: y447 :: y448 :: y449 :: y450 :: y451 :: y452 :: y453 :: y454 :: y455 :: y456 :: y457 :: y458 :: y459 :: y460 :: y461 :: y462 :: y463 :: y464 :: y465 :: y466 :: y467 :: y468 :: y469 :: y470 :: y471 :: y472 :: y473 :: y474 :: y475 :: y476 :: u477 :: u478 :: u479 :: u480 :: u481 :: u482 :: u483 :: u484 :: u485 :: u486 :: u487 :: u488 :: u489 :: u490 :: u491 :: u492 :: u493 :: u494 :: u495 :: u496 :: u497 :: u498 :: u499 :: u500 :: u501 :: u502 :: u503 :: u504 :: u505 :: u506 :: u507 :: u508 :: u509 :: u510 :: u511 :: u512 :: u513 :: u514 :: u515 :: u516 :: u517 :: u518 :: u519 :: u520 :: u521 :: u522 :: u523 :: u524 :: u525 :: u526 :: u527 :: u528 :: u529 :: u530 :: u531 :: u532 :: u533 :: u534 :: u535 :: u536 :: u537 :: u538 :: u539 :: u540 :: u541 :: u542 :: u543 :: u544 :: u545 :: u546 :: u547 :: u548 :: u549 :: u550 :: u551 :: u552 :: u553 :: u554 :: u555 :: u556 :: u557 :: u558 :: u559 :: u560 :: u561 :: u562 :: u563 :: u564 :: u565 :: u566 :: u567 :: u568 :: u569 :: u570 :: u571 :: u572 :: []), defers := [] } w') :
    (cutAt 4 (after 31 b4) C).wp Yba.prog (bodyPost Yba.prog Yba.f4 R) { tmps := List.toArray (u0 :: u1 :: u2 :: u3 :: u4 :: u5 :: u6 :: u7 :: u8 :: u9 :: u10 :: u11 :: u12 :: (.slice (some ⟨ND, 0, none⟩) L.nk L.nk) :: u14 :: (.pointer (some ⟨L.GB, 0, none⟩)) :: u16 :: u17 :: u18 :: u19 :: u20 :: u21 :: u22 :: u23 :: u24 :: u25 :: u26 :: u27 :: u28 :: u29 :: u30 :: (.pointer (some ⟨L.K t, 0, none⟩)) :: (.int .i64 (L.nd t : Int)) :: (.int .i64 (ti : Int)) :: (.int .i64 (p : Int)) :: u35 :: (.slice aF lN cF) :: (.bool gone) :: u38 :: u39 :: u40 :: u41 :: u42 :: u43 :: u44 :: u45 :: u46 :: u47 :: u48 :: u49 :: u50 :: u51 :: u52 :: u53 :: u54 :: u55 :: u56 :: u57 :: u58 :: u59 :: u60 :: u61 :: u62 :: u63 :: u64 :: u65 :: u66 :: u67 :: u68 :: u69 :: u70 :: u71 :: u72 :: u73 :: u74 :: u75 :: u76 :: u77 :: u78 :: u79 :: u80 :: u81 :: u82 :: u83 :: u84 :: u85 :: u86 :: u87 :: u88 :: u89 :: u90 :: u91 :: u92 :: u93 :: u94 :: u95 :: u96 :: u97 :: u98 :: u99 :: u100 :: u101 :: u102 :: u103 :: u104 :: u105 :: u106 :: u107 :: u108 :: u109 :: u110 :: u111 :: u112 :: u113 :: u114 :: u115 :: u116 :: u117 :: u118 :: u119 :: u120 :: u121 :: u122 :: u123 :: u124 :: u125 :: u126 :: u127 :: u128 :: u129 :: u130 :: u131 :: u132 :: u133 :: u134 :: u135 :: u136 :: u137 :: u138 :: u139 :: u140 :: u141 :: u142 :: u143 :: u144 :: u145 :: u146 :: u147 :: u148 :: u149 :: u150 :: u151 :: u152 :: u153 :: u154 :: u155 :: u156 :: u157 :: u158 :: u159 :: u160 :: u161 :: u162 :: u163 :: u164 :: u165 :: u166 :: u167 :: u168 :: u169 :: u170 :: u171 :: u172 :: u173 :: u174 :: u175 :: u176 :: u177 :: u178 :: u179 :: u180 :: u181 :: u182 :: u183 :: u184 :: u185 :: u186 :: u187 :: u188 :: u189 :: u190 :: u191 :: u192 :: u193 :: u194 :: u195 :: u196 :: u197 :: u198 :: u199 :: u200 :: u201 :: u202 :: u203 :: u204 :: u205 :: u206 :: u207 :: u208 :: u209 :: u210 :: u211 :: u212 :: u213 :: u214 :: u215 :: u216 :: u217 :: u218 :: u219 :: u220 :: u221 :: u222 :: u223 :: u224 :: u225 :: u226 :: u227 :: u228 :: u229 :: u230 :: u231 :: u232 :: u233 :: u234 :: u235 :: u236 :: u237 :: u238 :: u239 :: u240 :: u241 :: u242 :: u243 :: u244 :: u245 :: u246 :: u247 :: u248 :: u249 :: u250 :: u251 :: u252 :: u253 :: u254 :: u255 :: u256 :: u257 :: u258 :: u259 :: u260 :: u261 :: u262 :: u263 :: u264 :: u265 :: u266 :: u267 :: u268 :: u269 :: u270 :: u271 :: u272 :: u273 :: u274 :: u275 :: u276 :: u277 :: u278 :: u279 :: u280 :: u281 :: u282 :: u283 :: u284 :: u285 :: u286 :: u287 :: u288 :: u289 :: u290 :: u291 :: u292 :: u293 :: u294 :: u295 :: u296 :: u297 :: u298 :: u299 :: u300 :: u301 :: u302 :: u303 :: u304 :: u305 :: u306 :: u307 :: u308 :: u309 :: u310 :: u311 :: u312 :: u313 :: u314 :: u315 :: u316 :: u317 :: u318 :: u319 :: u320 :: u321 :: u322 :: u323 :: u324 :: u325 :: u326 :: u327 :: u328 :: u329 :: u330 :: u331 :: u332 :: u333 :: u334 :: u335 :: u336 :: u337 :: u338 :: u339 :: u340 :: u341 :: u342 :: u343 :: u344 :: u345 :: u346 :: u347 :: u348 :: u349 :: u350 :: u351 :: u352 :: u353 :: u354 :: u355 :: u356 :: u357 :: u358 :: u359 :: u360 :: u361 :: u362 :: u363 :: u364 :: u365 :: u366 :: u367 :: u368 :: u369 :: u370 :: u371 :: u372 :: u373 :: u374 :: u375 :: u376 :: u377 :: u378 :: u379 :: u380 :: u381 :: u382 :: u383 :: u384 :: u385 :: u386 :: u387 :: u388 :: u389 :: u390 :: u391 :: u392 :: u393 :: u394 :: u395 :: u396 :: u397 :: u398 :: u399 :: u400 :: u401 :: u402 :: u403 :: u404 :: u405 :: u406 :: u407 :: u408 :: u409 :: u410 :: u411 :: u412 :: u413 :: u414 :: u415 :: u416 :: u417 :: u418 :: u419 :: u420 :: u421 :: u422 :: u423 :: u424 :: u425 :: u426 :: u427 :: u428 :: u429 :: u430 :: u431 :: u432 :: u433 :: u434 :: u435 :: u436 :: u437 :: u438 :: u439 :: u440 :: u441 :: u442 :: u443 :: u444 :: u445 :: u446 :: u447 :: u448 :: u449 :: u450 :: u451 :: u452 :: u453 :: u454 :: u455 :: u456 :: u457 :: u458 :: u459 :: u460 :: u461 :: u462 :: u463 :: u464 :: u465 :: u466 :: u467 :: u468 :: u469 :: u470 :: u471 :: u472 :: u473 :: u474 :: u475 :: u476 :: u477 :: u478 :: u479 :: u480 :: u481 :: u482 :: u483 :: u484 :: u485 :: u486 :: u487 :: u488 :: u489 :: u490 :: u491 :: u492 :: u493 :: u494 :: u495 :: u496 :: u497 :: u498 :: u499 :: u500 :: u501 :: u502 :: u503 :: u504 :: u505 :: u506 :: u507 :: u508 :: u509 :: u510 :: u511 :: u512 :: u513 :: u514 :: u515 :: u516 :: u517 :: u518 :: u519 :: u520 :: u521 :: u522 :: u523 :: u524 :: u525 :: u526 :: u527 :: u528 :: u529 :: u530 :: u531 :: u532 :: u533 :: u534 :: u535 :: u536 :: u537 :: u538 :: u539 :: u540 :: u541 :: u542 :: u543 :: u544 :: u545 :: u546 :: u547 :: u548 :: u549 :: u550 :: u551 :: u552 :: u553 :: u554 :: u555 :: u556 :: u557 :: u558 :: u559 :: u560 :: u561 :: u562 :: u563 :: u564 :: u565 :: u566 :: u567 :: u568 :: u569 :: u570 :: u571 :: u572 :: []), defers := [] } w := by
  obtain rfl := h.hN
  have c0 := h.sys.k9 htn
  rw [he.ti] at c0
  have c1 := h.sys.g5
  have hl := he.lenN
  have HS := hide h
  have HE := hide he
  have HC := hide hC
  clear h he hC
  conv => arg 2; simp only [b4, Yba.f4, after, cutAt]
  go_wp2
  clear c0 c1
  go_loopw [47, 48] (fun kv _ wr => ∃ (k : Nat), k ≤ s2.nl.length ∧ kv = .int .i64 (k : Int) ∧ Outside [] w wr) (fun kv _ _ => s2.nl.length - (intOf kv).toNat)
  case atStart => exact ⟨0, Nat.zero_le _, rfl, Outside.refl _ _⟩
  case round =>
    obtain ⟨k, hk, rfl, hor⟩ := hrel
    have HOR := hide hor
    clear hor
    by_cases hkl : k < s2.nl.length
    · obtain ⟨x, hx⟩ : ∃ x, s2.nl[k]? = some x := ⟨_, List.getElem?_eq_getElem hkl⟩
      have hxn := HE.out.memN x (List.mem_of_getElem? hx)
      have hS := HS.out.outside HOR.out
      obtain ⟨gQ, oQ, hao, x1, x2⟩ := hS.sys.nx hx
      obtain ⟨gX, oX, hax, x3⟩ := hS.en.px rfl hx
      have x4 := hS.sys.n10 hxn
      have x5 := hS.sys.q41 hxn
      rw [HE.out.posN k x hx] at x5
      have g5 := hS.sys.g5
      rw [hao] at g5
      rw [hax]
      have e44 := neqB44 (some ⟨L.Nb x, 0, none⟩)
      have e29 := neqB29 (some ⟨L.Qb x, 41, none⟩)
      clear hS hx hao hax
      obtain ⟨wo, rfl⟩ : ∃ wo : World, wo = wr := ⟨_, rfl⟩
      go_wp2_with fail
      have ho' : Outside [] wo (wo.alloc (.cells #[.pointer (some ⟨L.Nb x, 0, none⟩), .pointer (some ⟨L.Qb x, 41, none⟩)] 108)) := (Outside.refl [] wo).alloc _
      have y3 := ho'.cell x3 (by simp)
      have y4 := ho'.cell x4 (by simp)
      have y5 := ho'.cell x5 (by simp)
      have y1 : (wo.alloc (.cells #[.pointer (some ⟨L.Nb x, 0, none⟩), .pointer (some ⟨L.Qb x, 41, none⟩)] 108)).cell? ⟨wo.heap.size, 0, none⟩ = some (.pointer (some ⟨L.Nb x, 0, none⟩)) := by
        rw [cell_of_row _ _ _ _ 108 (0, 0) (heap_alloc_new wo _)]
        rfl
      have y2 : (wo.alloc (.cells #[.pointer (some ⟨L.Nb x, 0, none⟩), .pointer (some ⟨L.Qb x, 41, none⟩)] 108)).cell? ⟨wo.heap.size, 1, none⟩ = some (.pointer (some ⟨L.Qb x, 41, none⟩)) := by
        rw [cell_of_row _ _ _ _ 108 (0, 0) (heap_alloc_new wo _)]
        rfl
      have HO2 := hide (HOR.out.trans ho')
      clear x1 x2 x3 x4 x5 g5 HOR ho'
      generalize wo.alloc (.cells #[.pointer (some ⟨L.Nb x, 0, none⟩), .pointer (some ⟨L.Qb x, 41, none⟩)] 108) = W at y1 y2 y3 y4 y5 HO2 ⊢
      generalize wo.heap.size = B at y1 y2 ⊢
      go_quiet (fail)
      go_wp2
      go_roundw
      case rel => exact ⟨k + 1, by omega, by go_num, HO2.out.drewN nq⟩
      case measure => simp [intOf]; omega
    · obtain rfl : k = s2.nl.length := by omega
      have hS := HS.out.outside HOR.out
      have d0 := hS.nds_cell hnt
      have d1 := hS.sys.n10 hnt
      have d2 := hS.sys.q41 hnt
      rw [HE.out.p] at d2
      clear hS
      cases gone with
      | true =>
        go_wp2
        apply unhide HC
        exact HOR.out
      | false =>
        go_wp2
        apply unhide HC
        exact HOR.out

end Go.Proofs.Ybulkdukm

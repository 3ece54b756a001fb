/-
  THE LAW's OWN LISTS, WALKED (law B).
-/
import Derived.Test.YbulkdukmBWb
namespace Go.Proofs.Ybulkdukm
open Go.RowKit
set_option linter.unusedVariables false

set_option maxRecDepth 100000 in
set_option maxHeartbeats 8000000 in
theorem p3 {u0 u1 u2 u5 u6 u7 u8 u9 u14 u18 u19 u20 u21 u22 u23 u24 u25 u26 u27 u28 u29 u30 u31 u32 u33 u34 u35 u36 u37 u38 u39 u40 u41 u42 u43 u44 u45 u46 u47 u48 u49 u50 u51 u52 u53 u54 u55 u56 u57 u58 u59 u60 u61 u62 u63 u64 u65 u66 u67 u68 u69 u70 u71 u72 u73 u74 u75 u76 u77 u78 u79 u80 u81 u82 u83 u84 u85 u86 u87 u88 u89 u90 u91 u92 u93 u94 u95 u96 u97 u98 u99 u100 u101 u102 u103 u104 u105 u106 u107 u108 u109 u110 u111 u112 u113 u114 u115 u116 u117 u118 u119 u120 u121 u122 u123 u124 u125 u126 u127 u128 u129 u130 u131 u132 u133 u134 u135 u136 u137 u138 u139 u140 u141 u142 u143 u144 u145 u146 u147 u148 u149 u150 u151 u152 u153 u154 u155 u156 u157 u158 u159 u160 u161 u162 u163 u164 u165 u166 u167 u168 u169 u170 u171 u172 u173 u174 u175 u176 u177 u178 u179 u180 u181 u182 u183 u184 u185 u186 u187 u188 u189 u190 u191 u192 u193 u194 u195 u196 u197 u198 u199 u200 u201 u202 u203 u204 u205 u206 u207 u208 u209 u210 u211 u212 u213 u214 u215 u216 u217 u218 u219 u220 u221 u222 u223 u224 u225 u226 u227 u228 u229 u230 u231 u232 u233 u234 u235 u236 u237 u238 u239 u240 u241 u242 u243 u244 u245 u246 u247 u248 u249 u250 u251 u252 u253 u254 u255 u256 u257 u258 u259 u260 u261 u262 u263 u264 u265 u266 u267 u268 u269 u270 u271 u272 u273 u274 u275 u276 u277 u278 u279 u280 u281 u282 u283 u284 u285 u286 u287 u288 u289 u290 u291 u292 u293 u294 u295 u296 u297 u298 u299 u300 u301 u302 u303 u304 u305 u306 u307 u308 u309 u310 u311 u312 u313 u314 u315 u316 u317 u318 u319 u320 u321 u322 u323 u324 u325 u326 u327 u328 u329 u330 u331 u332 u333 u334 u335 u336 u337 u338 u339 u340 u341 u342 u343 u344 u345 u346 u347 u348 u349 u350 u351 u352 u353 u354 u355 u356 u357 u358 u359 u360 u361 u362 u363 u364 u365 u366 u367 u368 u369 u370 u371 u372 u373 u374 u375 u376 u377 u378 u379 u380 u381 u382 u383 u384 u385 u386 u387 u388 u389 u390 u391 u392 u393 u394 u395 u396 u397 u398 u399 u400 u401 u402 u403 u404 u405 u406 u407 u408 u409 u410 u411 u412 u413 u414 u415 u416 u417 u418 u419 u420 u421 u422 u423 u424 u425 u426 u427 u428 u429 u430 u431 u432 u433 u434 u435 u436 u437 u438 u439 u440 u441 u442 u443 u444 u445 u446 u447 u448 u449 u450 u451 u452 u453 u454 u455 u456 u457 u458 u459 u460 u461 u462 u463 u464 u465 u466 u467 u468 u469 u470 u471 u472 u473 u474 u475 u476 u477 u478 u479 u480 u481 u482 u483 u484 u485 u486 u487 u488 u489 u490 u491 u492 u493 u494 u495 u496 u497 u498 u499 u500 u501 u502 u503 u504 u505 u506 u507 u508 u509 u510 u511 u512 u513 u514 u515 u516 u517 u518 u519 u520 u521 u522 u523 u524 u525 u526 u527 u528 u529 u530 u531 u532 u533 u534 u535 u536 u537 u538 u539 u540 u541 u542 u543 u544 u545 u546 u547 u548 u549 u550 u551 u552 u553 u554 u555 u556 u557 u558 u559 u560 u561 u562 u563 u564 u565 u566 u567 u568 u569 u570 u571 u572 : Value} (C : Code) (R : Ending → World → Prop) (w : World) (L : Lay) (q pick : Int) (ND WS NO : Nat) (s : Sta)
    (h : S3 w L q ND WS NO s) (hnk : 0 < L.nk ∧ L.nk ≤ 4) (hln : L.n ≤ 4097) (hndk : ∀ x, L.nd x < L.nk)
    (hC : ∀ (y0 y1 y2 y5 y6 y7 y8 y9 y14 y18 y19 y20 y21 y22 y23 y25 y26 y27 y29 y30 y31 y32 y33 y34 y35 y36 y37 y38 y39 y40 y41 y42 y43 y44 y45 y46 y47 y48 y49 y50 y51 y52 y53 y54 y55 y56 y57 y58 y59 y60 y61 y62 y63 y64 y65 y66 y67 y68 y69 y70 y71 y72 y73 y74 y75 y76 y77 y78 y79 y80 y81 y82 y83 y84 y85 y86 y87 y88 y89 y90 y91 y92 y93 y94 y95 y96 y97 y98 y99 y100 y101 y102 y103 y104 y105 y106 y107 y108 y109 y110 y111 y112 y113 y114 y115 y116 y117 y118 y119 y120 y121 y122 y123 y124 y125 y126 y127 y128 y129 y130 y131 y132 y133 y134 y135 y136 y137 y138 y139 y140 y141 y142 y143 y144 y145 y146 y147 y148 y149 y150 y151 y152 y153 y154 y155 y156 y157 y158 y159 y160 y161 y162 y163 y164 y165 y166 y167 y168 y169 y170 y171 y172 y173 y174 y175 y176 y177 y178 y179 y180 y181 y182 y183 y184 y185 y186 y187 y188 y189 y190 y191 y192 y193 y194 y195 y196 y197 y198 y199 y200 y201 y202 y203 y204 y205 y206 y207 y208 y209 y210 y211 y212 y213 y214 y215 y216 y217 y218 y219 y220 y221 y222 y223 y224 y225 y226 y227 y228 y229 y230 y231 y232 y233 y234 y235 y236 y237 y238 y239 y240 y241 y242 y243 y244 y245 y246 y247 y248 y249 y250 y251 y252 y253 y254 y255 y256 y257 y258 y259 y260 y261 y262 y263 y264 y265 y266 y267 y268 y269 y270 y271 y272 y273 y274 y275 y276 y277 y278 y279 y280 y281 y282 y283 y284 y285 y286 y287 y288 y289 y290 y291 y292 y293 y294 y295 y296 y297 y298 y299 y300 y301 y302 y303 y304 y305 y306 y307 y308 y309 y310 y311 y312 y313 y314 y315 y316 y317 y318 y319 y320 y321 y322 y323 y324 y325 y326 y327 y328 y329 y330 y331 y332 y333 y334 y335 y336 y337 y338 y339 y340 y341 y342 y343 y344 y345 y346 y347 y348 y349 y350 y351 y352 y353 y354 y355 y356 y357 y358 y359 y360 y361 y362 y363 y364 y365 y366 y367 y368 y369 y370 y371 y372 y373 y374 y375 y376 y377 y378 y379 y380 y381 y382 y383 y384 y385 y386 y387 y388 y389 y390 y391 y392 y393 y394 y395 y396 y397 y398 y399 y400 y401 y402 y403 y404 y405 y406 y407 y408 y409 y410 y411 y412 y413 y414 y415 y416 y417 y418 y419 y420 y421 y422 y423 y424 y425 y426 y427 y428 y429 y430 y431 y432 y433 y434 y435 y436 y437 y438 y439 y440 y441 y442 y443 y444 y445 y446 y447 y448 y449 y450 y451 y452 y453 y454 y455 y456 y457 y458 y459 y460 y461 y462 y463 y464 y465 y466 y467 y468 y469 y470 y471 y472 y473 y474 y475 y476 y477 y478 y479 y480 y481 y482 y483 y484 y485 y486 y487 y488 y489 y490 y491 y492 y493 y494 y495 y496 y497 y498 y499 y500 y501 y502 y503 y504 y505 y506 y507 y508 y509 y510 y511 y512 y513 y514 y515 y516 y517 y518 y519 y520 y521 y522 y523 y524 y525 y526 y527 y528 y529 y530 y531 y532 y533 y534 y535 y536 y537 y538 y539 y540 y541 y542 y543 y544 y545 y546 y547 y548 y549 y550 y551 y552 y553 y554 y555 y556 y557 y558 y559 y560 y561 y562 y563 y564 y565 y566 y567 y568 y569 y570 y571 y572 : Value) (w' : World) (WB : Nat) (a : Nat → Option Addr) (c : Nat → Nat) (aN : Option Addr) (cN : Nat), Outside [] w w' → KB w' L.nk WB (fun y => (s.wl y).map L.K) a c (s.nl.map L.Nb) aN cN → C.wp Yba.prog (bodyPost Yba.prog Yba.f4 R) { tmps := List.toArray (y0 :: y1 :: y2 :: (.int .u64 pick) :: (.int .i64 q) :: y5 :: y6 :: y7 :: y8 :: y9 :: (.bool false) :: (.int .i64 (L.nk : Int)) :: (.int .i64 (L.n : Int)) :: (.slice (some ⟨ND, 0, none⟩) L.nk L.nk) :: y14 :: (.pointer (some ⟨L.GB, 0, none⟩)) :: (.slice (some ⟨WS, 0, none⟩) L.n L.n) :: (.slice (some ⟨NO, 0, none⟩) L.n L.n) :: y18 :: y19 :: y20 :: y21 :: y22 :: y23 :: (.slice (some ⟨WB, 0, none⟩) L.nk L.nk) :: y25 :: y26 :: y27 :: (.slice aN s.nl.length cN) :: y29 :: y30 :: y31 :: y32 :: y33 :: y34 :: y35 :: y36 :: y37 :: y38 :: y39 :: y40 :: y41 :: y42 :: y43 :: y44 :: y45 :: y46 :: y47 :: y48 :: y49 :: y50 :: y51 :: y52 :: y53 :: y54 :: y55 :: y56 :: y57 :: y58 :: y59 :: y60 :: y61 :: y62 :: y63 :: y64 :: y65 :: y66 :: y67 :: y68 :: y69 :: y70 :: y71 :: y72 :: y73 :: y74 :: y75 :: y76 :: y77 :: y78 :: y79 :: y80 :: y81 :: y82 :: y83 :: y84 :: y85 :: y86 :: y87 :: y88 :: y89 :: y90 :: y91 :: y92 :: y93 :: y94 :: y95 :: y96 :: y97 :: y98 :: y99 :: y100 :: y101 :: y102 :: y103 :: y104 :: y105 :: y106 :: y107 :: y108 :: y109 :: y110 :: y111 :: y112 :: y113 :: y114 :: y115 :: y116 :: y117 :: y118 :: y119 :: y120 :: y121 :: y122 :: y123 :: y124 :: y125 :: y126 :: y127 :: y128 :: y129 :: y130 :: y131 :: y132 :: y133 :: y134 :: y135 :: y136 :: y137 :: y138 :: y139 :: y140 :: y141 :: y142 :: y143 :: y144 :: y145 :: y146 :: y147 :: y148 :: y149 :: y150 :: y151 :: y152 :: y153 :: y154 :: y155 :: y156 :: y157 :: y158 :: y159 :: y160 :: y161 :: y162 :: y163 :: y164 :: y165 :: y166 :: y167 :: y168 :: y169 :: y170 :: y171 :: y172 :: y173 :: y174 :: y175 :: y176 :: y177 :: y178 :: y179 :: y180 :: y181 :: y182 :: y183 :: y184 :: y185 :: y186 :: y187 :: y188 :: y189 :: y190 :: y191 :: y192 :: y193 :: y194 :: y195 :: y196 :: y197 :: y198 :: y199 :: y200 :: y201 :: y202 :: y203 :: y204 :: y205 :: y206 :: y207 :: y208 :: y209 :: y210 :: y211 :: y212 :: y213 :: y214 :: y215 :: y216 :: y217 :: y218 :: y219 :: y220 :: y221 :: y222 :: y223 :: y224 :: y225 :: y226 :: y227 :: y228 :: y229 :: y230 :: y231 :: y232 :: y233 :: y234 :: y235 :: y236 :: y237 :: y238 :: y239 :: y240 :: y241 :: y242 :: y243 :: y244 :: y245 :: y246 :: y247 :: y248 :: y249 :: y250 :: y251 :: y252 :: y253 :: y254 :: y255 :: y256 :: y257 :: y258 :: y259 :: y260 :: y261 :: y262 :: y263 :: y264 :: y265 :: y266 :: y267 :: y268 :: y269 :: y270 :: y271 :: y272 :: y273 :: y274 :: y275 :: y276 :: y277 :: y278 :: y279 :: y280 :: y281 :: y282 :: y283 :: y284 :: y285 :: y286 :: y287 :: y288 :: y289 :: y290 :: y291 :: y292 :: y293 :: y294 :: y295 :: y296 :: y297 :: y298 :: y299 :: y300 :: y301 :: y302 :: y303 :: y304 :: y305 :: y306 :: y307 :: y308 :: y309 :: y310 :: y311 :: y312 :: y313 :: y314 :: y315 :: y316 :: y317 :: y318 :: y319 :: y320 :: y321 :: y322 :: y323 :: y324 :: y325 :: y326 :: y327 :: y328 :: y329 :: y330 :: y331 :: y332 :: y333 :: y334 :: y335 :: y336 :: y337 :: y338 :: y339 :: y340 :: y341 :: y342 :: y343 :: y344 :: y345 :: y346 :: y347 :: y348 :: y349 :: y350 :: y351 :: y352 :: y353 :: y354 :: y355 :: y356 :: y357 :: y358 :: y359 :: y360 :: y361 :: y362 :: y363 :: y364 :: y365 :: y366 :: y367 :: y368 :: y369 :: y370 :: y371 :: y372 :: y373 :: y374 :: y375 :: y376 :: y377 :: y378 :: y379 :: y380 :: y381 :: y382 :: y383 :: y384 :: y385 :: y386 :: y387 :: y388 :: y389 :: y390 :: y391 :: y392 :: y393 :: y394 :: y395 :: y396 :: y397 :: y398 :: y399 :: y400 :: y401 :: y402 :: y403 :: y404 :: y405 :: y406 :: y407 :: y408 :: y409 :: y410 :: y411 :: y412 :: y413 :: y414 :: y415 :: y416 :: y417 :: y418 :: y419 :: y420 :: y421 :: y422 :: y423 :: y424 :: y425 :: y426 :: y427 :: y428 :: y429 :: y430 :: y431 :: y432 :: y433 :: y434 :: y435 :: y436 :: y437 :: y438 :: y439 :: y440 :: y441 :: y442 :: y443 :: y444 :: y445 :: y446 :: y447 :: y448 :: y449 :: y450 :: y451 :: y452 :: y453 :: y454 :: y455 :: y456 :: y457 :: y458 :: y459 :: y460 :: y461 :: y462 :: y463 :: y464 :: y465 :: y466 :: y467 :: y468 :: y469 :: y470 :: y471 :: y472 :: y473 :: y474 :: y475 :: y476 :: y477 :: y478 :: y479 :: y480 :: y481 :: y482 :: y483 :: y484 :: y485 :: y486 :: y487 :: y488 :: y489 :: y490 :: y491 :: y492 :: y493 :: y494 :: y495 :: y496 :: y497 :: y498 :: y499 :: y500 :: y501 :: y502 :: y503 :: y504 :: y505 :: y506 :: y507 :: y508 :: y509 :: y510 :: y511 :: y512 :: y513 :: y514 :: y515 :: y516 :: y517 :: y518 :: y519 :: y520 :: y521 :: y522 :: y523 :: y524 :: y525 :: y526 :: y527 :: y528 :: y529 :: y530 :: y531 :: y532 :: y533 :: y534 :: y535 :: y536 :: y537 :: y538 :: y539 :: y540 :: y541 :: y542 :: y543 :: y544 :: y545 :: y546 :: y547 :: y548 :: y549 :: y550 :: y551 :: y552 :: y553 :: y554 :: y555 :: y556 :: y557 :: y558 :: y559 :: y560 :: y561 :: y562 :: y563 :: y564 :: y565 :: y566 :: y567 :: y568 :: y569 :: y570 :: y571 :: y572 :: []), defers := [] } w') :
    (cutAt 4 (after 10 b4) C).wp Yba.prog (bodyPost Yba.prog Yba.f4 R) { tmps := List.toArray (u0 :: u1 :: u2 :: (.int .u64 pick) :: (.int .i64 q) :: u5 :: u6 :: u7 :: u8 :: u9 :: (.bool false) :: (.int .i64 (L.nk : Int)) :: (.int .i64 (L.n : Int)) :: (.slice (some ⟨ND, 0, none⟩) L.nk L.nk) :: u14 :: (.pointer (some ⟨L.GB, 0, none⟩)) :: (.slice (some ⟨WS, 0, none⟩) L.n L.n) :: (.slice (some ⟨NO, 0, none⟩) L.n L.n) :: u18 :: u19 :: u20 :: u21 :: u22 :: u23 :: u24 :: u25 :: u26 :: u27 :: u28 :: u29 :: u30 :: u31 :: u32 :: u33 :: u34 :: u35 :: u36 :: u37 :: u38 :: u39 :: u40 :: u41 :: u42 :: u43 :: u44 :: u45 :: u46 :: u47 :: u48 :: u49 :: u50 :: u51 :: u52 :: u53 :: u54 :: u55 :: u56 :: u57 :: u58 :: u59 :: u60 :: u61 :: u62 :: u63 :: u64 :: u65 :: u66 :: u67 :: u68 :: u69 :: u70 :: u71 :: u72 :: u73 :: u74 :: u75 :: u76 :: u77 :: u78 :: u79 :: u80 :: u81 :: u82 :: u83 :: u84 :: u85 :: u86 :: u87 :: u88 :: u89 :: u90 :: u91 :: u92 :: u93 :: u94 :: u95 :: u96 :: u97 :: u98 :: u99 :: u100 :: u101 :: u102 :: u103 :: u104 :: u105 :: u106 :: u107 :: u108 :: u109 :: u110 :: u111 :: u112 :: u113 :: u114 :: u115 :: u116 :: u117 :: u118 :: u119 :: u120 :: u121 :: u122 :: u123 :: u124 :: u125 :: u126 :: u127 :: u128 :: u129 :: u130 :: u131 :: u132 :: u133 :: u134 :: u135 :: u136 :: u137 :: u138 :: u139 :: u140 :: u141 :: u142 :: u143 :: u144 :: u145 :: u146 :: u147 :: u148 :: u149 :: u150 :: u151 :: u152 :: u153 :: u154 :: u155 :: u156 :: u157 :: u158 :: u159 :: u160 :: u161 :: u162 :: u163 :: u164 :: u165 :: u166 :: u167 :: u168 :: u169 :: u170 :: u171 :: u172 :: u173 :: u174 :: u175 :: u176 :: u177 :: u178 :: u179 :: u180 :: u181 :: u182 :: u183 :: u184 :: u185 :: u186 :: u187 :: u188 :: u189 :: u190 :: u191 :: u192 :: u193 :: u194 :: u195 :: u196 :: u197 :: u198 :: u199 :: u200 :: u201 :: u202 :: u203 :: u204 :: u205 :: u206 :: u207 :: u208 :: u209 :: u210 :: u211 :: u212 :: u213 :: u214 :: u215 :: u216 :: u217 :: u218 :: u219 :: u220 :: u221 :: u222 :: u223 :: u224 :: u225 :: u226 :: u227 :: u228 :: u229 :: u230 :: u231 :: u232 :: u233 :: u234 :: u235 :: u236 :: u237 :: u238 :: u239 :: u240 :: u241 :: u242 :: u243 :: u244 :: u245 :: u246 :: u247 :: u248 :: u249 :: u250 :: u251 :: u252 :: u253 :: u254 :: u255 :: u256 :: u257 :: u258 :: u259 :: u260 :: u261 :: u262 :: u263 :: u264 :: u265 :: u266 :: u267 :: u268 :: u269 :: u270 :: u271 :: u272 :: u273 :: u274 :: u275 :: u276 :: u277 :: u278 :: u279 :: u280 :: u281 :: u282 :: u283 :: u284 :: u285 :: u286 :: u287 :: u288 :: u289 :: u290 :: u291 :: u292 :: u293 :: u294 :: u295 :: u296 :: u297 :: u298 :: u299 :: u300 :: u301 :: u302 :: u303 :: u304 :: u305 :: u306 :: u307 :: u308 :: u309 :: u310 :: u311 :: u312 :: u313 :: u314 :: u315 :: u316 :: u317 :: u318 :: u319 :: u320 :: u321 :: u322 :: u323 :: u324 :: u325 :: u326 :: u327 :: u328 :: u329 :: u330 :: u331 :: u332 :: u333 :: u334 :: u335 :: u336 :: u337 :: u338 :: u339 :: u340 :: u341 :: u342 :: u343 :: u344 :: u345 :: u346 :: u347 :: u348 :: u349 :: u350 :: u351 :: u352 :: u353 :: u354 :: u355 :: u356 :: u357 :: u358 :: u359 :: u360 :: u361 :: u362 :: u363 :: u364 :: u365 :: u366 :: u367 :: u368 :: u369 :: u370 :: u371 :: u372 :: u373 :: u374 :: u375 :: u376 :: u377 :: u378 :: u379 :: u380 :: u381 :: u382 :: u383 :: u384 :: u385 :: u386 :: u387 :: u388 :: u389 :: u390 :: u391 :: u392 :: u393 :: u394 :: u395 :: u396 :: u397 :: u398 :: u399 :: u400 :: u401 :: u402 :: u403 :: u404 :: u405 :: u406 :: u407 :: u408 :: u409 :: u410 :: u411 :: u412 :: u413 :: u414 :: u415 :: u416 :: u417 :: u418 :: u419 :: u420 :: u421 :: u422 :: u423 :: u424 :: u425 :: u426 :: u427 :: u428 :: u429 :: u430 :: u431 :: u432 :: u433 :: u434 :: u435 :: u436 :: u437 :: u438 :: u439 :: u440 :: u441 :: u442 :: u443 :: u444 :: u445 :: u446 :: u447 :: u448 :: u449 :: u450 :: u451 :: u452 :: u453 :: u454 :: u455 :: u456 :: u457 :: u458 :: u459 :: u460 :: u461 :: u462 :: u463 :: u464 :: u465 :: u466 :: u467 :: u468 :: u469 :: u470 :: u471 :: u472 :: u473 :: u474 :: u475 :: u476 :: u477 :: u478 :: u479 :: u480 :: u481 :: u482 :: u483 :: u484 :: u485 :: u486 :: u487 :: u488 :: u489 :: u490 :: u491 :: u492 :: u493 :: u494 :: u495 :: u496 :: u497 :: u498 :: u499 :: u500 :: u501 :: u502 :: u503 :: u504 :: u505 :: u506 :: u507 :: u508 :: u509 :: u510 :: u511 :: u512 :: u513 :: u514 :: u515 :: u516 :: u517 :: u518 :: u519 :: u520 :: u521 :: u522 :: u523 :: u524 :: u525 :: u526 :: u527 :: u528 :: u529 :: u530 :: u531 :: u532 :: u533 :: u534 :: u535 :: u536 :: u537 :: u538 :: u539 :: u540 :: u541 :: u542 :: u543 :: u544 :: u545 :: u546 :: u547 :: u548 :: u549 :: u550 :: u551 :: u552 :: u553 :: u554 :: u555 :: u556 :: u557 :: u558 :: u559 :: u560 :: u561 :: u562 :: u563 :: u564 :: u565 :: u566 :: u567 :: u568 :: u569 :: u570 :: u571 :: u572 :: []), defers := [] } w := by
  obtain ⟨ie, hie, hz0, hz1, hz2⟩ := info_parts Yba.info46
  obtain ⟨if_, hif, hy0, hy1, hy2⟩ := info_parts Yba.info44
  have HS := hide h
  have HC := hide hC
  have HNDK := hide hndk
  have hmk := mk_full104 L.nk (by omega)
  have HWL : Hid (∀ j, j < L.nk → (s.wl j).length ≤ 4097) := fun j hj => by rw [h.blt.wl j hj]; exact Nat.le_trans (wlOf_len _ _ _) hln
  have hNL : s.nl.length ≤ 4097 := by rw [h.blt.nl]; exact Nat.le_trans (nlOf_len _ _) hln
  clear h hC hndk
  conv => arg 2; simp only [b4, Yba.f4, after, cutAt]
  go_wp2
  obtain ⟨WB, hWB⟩ : ∃ WB, WB = w.heap.size := ⟨_, rfl⟩
  have HM := hide (WBS.made w L.nk)
  rw [← hWB] at HM
  rw [← gAt_zero L s] at HM
  rw [← hWB]
  generalize w.alloc (.cells (nils L.nk) 78) = wm at *
  clear hWB hmk
  go_loopw [25] (fun jv wr => ∃ (j : Nat) (a : Nat → Option Addr) (c : Nat → Nat), j ≤ L.nk ∧ jv = .int .i64 (j : Int) ∧ WBS w wr L.nk WB (gAt L s j 0) a c) (fun jv _ => L.nk - (intOf jv).toNat)
  case atStart => exact ⟨0, _, _, Nat.zero_le _, rfl, HM.out⟩
  case round =>
    clear HM
    obtain ⟨j, a, c, hj, rfl, hW⟩ := hrel
    have HW := hide hW
    clear hW
    by_cases hjn : j < L.nk
    · have hS3 := HS.out.outside HW.out.out
      have d0 := hS3.nds_cell hjn
      have d1 := hS3.sys.n10 hjn
      have d2 := hS3.sys.q40 hjn
      clear hS3
      have hwl := HWL.out j hjn
      go_wp2
      go_loopw [27] (fun qv wr2 => ∃ (k : Nat) (a2 : Nat → Option Addr) (c2 : Nat → Nat), k ≤ (s.wl j).length ∧ qv = .int .i64 (k : Int) ∧ WBS w wr2 L.nk WB (gAt L s j k) a2 c2) (fun qv _ => (s.wl j).length - (intOf qv).toNat)
      case atStart => exact ⟨0, _, _, Nat.zero_le _, rfl, HW.out⟩
      case round =>
        clear HW d0 d1 d2
        obtain ⟨k, a2, c2, hk, rfl, hW⟩ := hrel
        have HW := hide hW
        clear hW
        by_cases hkn : k < (s.wl j).length
        · obtain ⟨x, hx⟩ : ∃ x, (s.wl j)[k]? = some x := ⟨_, List.getElem?_eq_getElem hkn⟩
          obtain ⟨g, off, hao, x1, _⟩ := (HS.out.outside HW.out.out).sys.qx hjn hx
          rw [hao]
          have HX := hide (gAt_next (L := L) hx)
          have b0 := HW.out.cell hjn
          have bf := HW.out.frozen j
          have hltW := lt_of_block HW.out.row
          have hgl : (gAt L s j k j).length = k := by
            rw [gAt_now]
            simp
            omega
          rw [hgl] at b0
          have hsl := HW.out.slc j hjn
          rw [hgl] at hsl
          have HSL := hide hsl
          clear hsl
          have HGL := hide hgl
          clear hgl hx hao
          have tok : True := trivial
          obtain ⟨wo, rfl⟩ : ∃ wo : World, wo = wr := ⟨_, rfl⟩
          go_wp2
          go_region_law (refine step_append_cut rfl (.tmp 203) (.tmp 209) 78 rfl 46 ie (.pointer none) 1 8 Yba.underlying78 hie hz0 hz1 hz2 rfl (by decide) (a2 j) k (c2 j) (pvs (gAt L s j k j)) (by simp [Act.eval]) (HSL.out.outside (S := []) (((Outside.refl [] wo).alloc _).drew) (by simp)) ⟨wo.heap.size, 0, none⟩ 1 1 [pv (L.K x)] (by simp [Act.eval]) rfl (pv_news' (L.K x) wo.heap.size 46 rfl) (pvs_one [L.K x]) (by decide) (by unfold maxLen; omega) (by omega) ?_; intro ao' cap' w2 hs2 ho2 how2; have HN := hide (HW.out.next (b := L.K x) hjn (((Outside.refl [] wo).alloc _).drew) (by rw [HGL.out]; exact hs2) ho2 how2); rw [HGL.out] at HN; have k1 := HN.out.1.1; have k2 := HN.out.1.2; have HN2 := hide HN.out.2; clear hs2 ho2 how2 HN)
          all_goals (go_wp2; go_roundw; (case rel => exact ⟨k + 1, _, _, by omega, by go_num, by rw [← HX.out]; exact HN2.out⟩); (case measure => simp [intOf]; omega))
        · obtain rfl : k = (s.wl j).length := by omega
          go_wp2
          go_roundw
          case rel => exact ⟨j + 1, a2, c2, by omega, by go_num, by rw [← gAt_full]; exact HW.out⟩
          case measure => simp [intOf]; omega
    · obtain rfl : j = L.nk := by omega
      go_wp2
      go_loopw [28, 29] (fun v iv wr2 => ∃ (k : Nat) (a2 : Option Addr) (c2 : Nat), k ≤ s.nl.length ∧ v = .slice a2 k c2 ∧ iv = .int .i64 (k : Int) ∧ Own1 wr wr2 44 1 a2 k c2 (pvs ((s.nl.map L.Nb).take k))) (fun _ iv _ => s.nl.length - (intOf iv).toNat)
      case atStart => exact ⟨0, none, 0, Nat.zero_le _, rfl, rfl, Slc.nil _ _ _ _, by simp [ownB], Outside.refl _ _⟩
      case round =>
        obtain ⟨k, a2, c2, hk, rfl, rfl, hown⟩ := hrel
        have HO := hide hown
        clear hown
        have g5 := (HS.out.outside (HW.out.out.trans HO.out.out)).sys.g5
        by_cases hkn : k < s.nl.length
        · obtain ⟨x, hx⟩ : ∃ x, s.nl[k]? = some x := ⟨_, List.getElem?_eq_getElem hkn⟩
          obtain ⟨g, off, hao, x1, _⟩ := (HS.out.outside (HW.out.out.trans HO.out.out)).sys.nx hx
          rw [hao] at g5
          have HT := hide (take_snoc (l := s.nl.map L.Nb) (q := k) (x := L.Nb x) (by simp [hx]))
          clear hx hao
          obtain ⟨wo, rfl⟩ : ∃ wo : World, wo = wr := ⟨_, rfl⟩
          have tok : True := trivial
          go_wp2_with (at_builtin; go_must (have _t := tok; refine wpList_append_cut _ rfl (.tmp 221) (.tmp 230) 43 rfl 44 if_ (.pointer none) 1 8 Yba.underlying43 hif hy0 hy1 hy2 rfl (by decide) a2 k c2 (pvs ((s.nl.map L.Nb).take k)) rfl (slc_alloc HO.out.slc _) ⟨wo.heap.size, 0, none⟩ 1 1 [pv (L.Nb x)] rfl rfl (pv_news' (L.Nb x) _ 44 rfl) (pvs_one [_]) (by decide) (by unfold maxLen; omega) (by omega) ?_; intro ao' cap' w2 hs2 ho2 how2; have HNX := hide (HO.out.next _ hs2 ho2 how2); clear hs2 ho2 how2 tok _t))
          go_roundw
          case rel =>
            refine ⟨k + 1, ao', cap', by omega, rfl, by go_num, ?_⟩
            rw [HT.out, ← pvs_snoc]
            exact HNX.out
          case measure => simp [intOf]; omega
        · obtain rfl : k = s.nl.length := by omega
          go_wp2
          apply unhide HC
          · exact HW.out.out.trans HO.out.out
          · refine HW.out.kb ?_
            have e := HO.out
            rw [List.take_of_length_le (by simp)] at e
            exact e

end Go.Proofs.Ybulkdukm

/-
  THE LAW's SECOND LOOP, WALKED (law B).
-/
import Derived.Test.YbulkdukmBRound
namespace Go.Proofs.Ybulkdukm
open Go.RowKit
set_option linter.unusedVariables false


set_option maxRecDepth 100000 in
set_option maxHeartbeats 8000000 in
theorem p2 {u2 u5 u6 u7 u8 u9 u14 u18 u19 u20 u21 u22 u23 u24 u25 u26 u27 u28 u29 u30 u31 u32 u33 u34 u35 u36 u37 u38 u39 u40 u41 u42 u43 u44 u45 u46 u47 u48 u49 u50 u51 u52 u53 u54 u55 u56 u57 u58 u59 u60 u61 u62 u63 u64 u65 u66 u67 u68 u69 u70 u71 u72 u73 u74 u75 u76 u77 u78 u79 u80 u81 u82 u83 u84 u85 u86 u87 u88 u89 u90 u91 u92 u93 u94 u95 u96 u97 u98 u99 u100 u101 u102 u103 u104 u105 u106 u107 u108 u109 u110 u111 u112 u113 u114 u115 u116 u117 u118 u119 u120 u121 u122 u123 u124 u125 u126 u127 u128 u129 u130 u131 u132 u133 u134 u135 u136 u137 u138 u139 u140 u141 u142 u143 u144 u145 u146 u147 u148 u149 u150 u151 u152 u153 u154 u155 u156 u157 u158 u159 u160 u161 u162 u163 u164 u165 u166 u167 u168 u169 u170 u171 u172 u173 u174 u175 u176 u177 u178 u179 u180 u181 u182 u183 u184 u185 u186 u187 u188 u189 u190 u191 u192 u193 u194 u195 u196 u197 u198 u199 u200 u201 u202 u203 u204 u205 u206 u207 u208 u209 u210 u211 u212 u213 u214 u215 u216 u217 u218 u219 u220 u221 u222 u223 u224 u225 u226 u227 u228 u229 u230 u231 u232 u233 u234 u235 u236 u237 u238 u239 u240 u241 u242 u243 u244 u245 u246 u247 u248 u249 u250 u251 u252 u253 u254 u255 u256 u257 u258 u259 u260 u261 u262 u263 u264 u265 u266 u267 u268 u269 u270 u271 u272 u273 u274 u275 u276 u277 u278 u279 u280 u281 u282 u283 u284 u285 u286 u287 u288 u289 u290 u291 u292 u293 u294 u295 u296 u297 u298 u299 u300 u301 u302 u303 u304 u305 u306 u307 u308 u309 u310 u311 u312 u313 u314 u315 u316 u317 u318 u319 u320 u321 u322 u323 u324 u325 u326 u327 u328 u329 u330 u331 u332 u333 u334 u335 u336 u337 u338 u339 u340 u341 u342 u343 u344 u345 u346 u347 u348 u349 u350 u351 u352 u353 u354 u355 u356 u357 u358 u359 u360 u361 u362 u363 u364 u365 u366 u367 u368 u369 u370 u371 u372 u373 u374 u375 u376 u377 u378 u379 u380 u381 u382 u383 u384 u385 u386 u387 u388 u389 u390 u391 u392 u393 u394 u395 u396 u397 u398 u399 u400 u401 u402 u403 u404 u405 u406 u407 u408 u409 u410 u411 u412 u413 u414 u415 u416 u417 u418 u419 u420 u421 u422 u423 u424 u425 u426 u427 u428 u429 u430 u431 u432 u433 u434 u435 u436 u437 u438 u439 u440 u441 u442 u443 u444 u445 u446 u447 u448 u449 u450 u451 u452 u453 u454 u455 u456 u457 u458 u459 u460 u461 u462 u463 u464 u465 u466 u467 u468 u469 u470 u471 u472 u473 u474 u475 u476 u477 u478 u479 u480 u481 u482 u483 u484 u485 u486 u487 u488 u489 u490 u491 u492 u493 u494 u495 u496 u497 u498 u499 u500 u501 u502 u503 u504 u505 u506 u507 u508 u509 u510 u511 u512 u513 u514 u515 u516 u517 u518 u519 u520 u521 u522 u523 u524 u525 u526 u527 u528 u529 u530 u531 u532 u533 u534 u535 u536 u537 u538 u539 u540 u541 u542 u543 u544 u545 u546 u547 u548 u549 u550 u551 u552 u553 u554 u555 u556 u557 u558 u559 u560 u561 u562 u563 u564 u565 u566 u567 u568 u569 u570 u571 u572 : Value} (C : Code) (R : Ending → World → Prop) (w0 w : World) (L : Lay) (q pick : Int) (n len0 len1 cap0 cap1 ND WS NO : Nat) (a0 a1 : Option Addr) (sl ids : Nat → Nat) (K T : Nat → Nat) (s : Sta)
    (h : L2 w0 w L q n 0 ND WS NO K T s) (hnk : 0 < L.nk ∧ L.nk ≤ 4) (hn : n = len0 + 1) (hl0 : len0 ≤ 4096) (hl1 : len1 ≤ 9223372036854775807) (hWS : w0.heap.size ≤ WS) (hNO : w0.heap.size ≤ NO)
    (hs0 : Src1 w0 .u8 a0 len0 sl) (hs1 : Src1 w0 .u64 a1 len1 ids) (hnd0 : L.nd 0 = 0) (hnd : ∀ x, x < len0 → L.nd (x + 1) = sl x % L.nk) (hndk : ∀ x, L.nd x < L.nk) (hsl : ∀ x, sl x < 256) (hid : ∀ x, L.id x = if x < len1 then ids x else x) (hid64 : ∀ x, x < n → L.id x < 2 ^ 64)
    (hC : ∀ (y0 y1 y2 y5 y6 y7 y8 y9 y14 y18 y19 y20 y21 y22 y23 y24 y25 y26 y27 y28 y29 y30 y31 y32 y33 y34 y35 y36 y37 y38 y39 y40 y41 y42 y43 y44 y45 y46 y47 y48 y49 y50 y51 y52 y53 y54 y55 y56 y57 y58 y59 y60 y61 y62 y63 y64 y65 y66 y67 y68 y69 y70 y71 y72 y73 y74 y75 y76 y77 y78 y79 y80 y81 y82 y83 y84 y85 y86 y87 y88 y89 y90 y91 y92 y93 y94 y95 y96 y97 y98 y99 y100 y101 y102 y103 y104 y105 y106 y107 y108 y109 y110 y111 y112 y113 y114 y115 y116 y117 y118 y119 y120 y121 y122 y123 y124 y125 y126 y127 y128 y129 y130 y131 y132 y133 y134 y135 y136 y137 y138 y139 y140 y141 y142 y143 y144 y145 y146 y147 y148 y149 y150 y151 y152 y153 y154 y155 y156 y157 y158 y159 y160 y161 y162 y163 y164 y165 y166 y167 y168 y169 y170 y171 y172 y173 y174 y175 y176 y177 y178 y179 y180 y181 y182 y183 y184 y185 y186 y187 y188 y189 y190 y191 y192 y193 y194 y195 y196 y197 y198 y199 y200 y201 y202 y203 y204 y205 y206 y207 y208 y209 y210 y211 y212 y213 y214 y215 y216 y217 y218 y219 y220 y221 y222 y223 y224 y225 y226 y227 y228 y229 y230 y231 y232 y233 y234 y235 y236 y237 y238 y239 y240 y241 y242 y243 y244 y245 y246 y247 y248 y249 y250 y251 y252 y253 y254 y255 y256 y257 y258 y259 y260 y261 y262 y263 y264 y265 y266 y267 y268 y269 y270 y271 y272 y273 y274 y275 y276 y277 y278 y279 y280 y281 y282 y283 y284 y285 y286 y287 y288 y289 y290 y291 y292 y293 y294 y295 y296 y297 y298 y299 y300 y301 y302 y303 y304 y305 y306 y307 y308 y309 y310 y311 y312 y313 y314 y315 y316 y317 y318 y319 y320 y321 y322 y323 y324 y325 y326 y327 y328 y329 y330 y331 y332 y333 y334 y335 y336 y337 y338 y339 y340 y341 y342 y343 y344 y345 y346 y347 y348 y349 y350 y351 y352 y353 y354 y355 y356 y357 y358 y359 y360 y361 y362 y363 y364 y365 y366 y367 y368 y369 y370 y371 y372 y373 y374 y375 y376 y377 y378 y379 y380 y381 y382 y383 y384 y385 y386 y387 y388 y389 y390 y391 y392 y393 y394 y395 y396 y397 y398 y399 y400 y401 y402 y403 y404 y405 y406 y407 y408 y409 y410 y411 y412 y413 y414 y415 y416 y417 y418 y419 y420 y421 y422 y423 y424 y425 y426 y427 y428 y429 y430 y431 y432 y433 y434 y435 y436 y437 y438 y439 y440 y441 y442 y443 y444 y445 y446 y447 y448 y449 y450 y451 y452 y453 y454 y455 y456 y457 y458 y459 y460 y461 y462 y463 y464 y465 y466 y467 y468 y469 y470 y471 y472 y473 y474 y475 y476 y477 y478 y479 y480 y481 y482 y483 y484 y485 y486 y487 y488 y489 y490 y491 y492 y493 y494 y495 y496 y497 y498 y499 y500 y501 y502 y503 y504 y505 y506 y507 y508 y509 y510 y511 y512 y513 y514 y515 y516 y517 y518 y519 y520 y521 y522 y523 y524 y525 y526 y527 y528 y529 y530 y531 y532 y533 y534 y535 y536 y537 y538 y539 y540 y541 y542 y543 y544 y545 y546 y547 y548 y549 y550 y551 y552 y553 y554 y555 y556 y557 y558 y559 y560 y561 y562 y563 y564 y565 y566 y567 y568 y569 y570 y571 y572 : Value) (w' : World) (K' T' : Nat → Nat) (s' : Sta), L2 w0 w' L q n n ND WS NO K' T' s' → C.wp Yba.prog (bodyPost Yba.prog Yba.f4 R) { tmps := List.toArray (y0 :: y1 :: y2 :: (.int .u64 pick) :: (.int .i64 q) :: y5 :: y6 :: y7 :: y8 :: y9 :: (.bool false) :: (.int .i64 (L.nk : Int)) :: (.int .i64 (n : Int)) :: (.slice (some ⟨ND, 0, none⟩) L.nk L.nk) :: y14 :: (.pointer (some ⟨L.GB, 0, none⟩)) :: (.slice (some ⟨WS, 0, none⟩) n n) :: (.slice (some ⟨NO, 0, none⟩) n n) :: y18 :: y19 :: y20 :: y21 :: y22 :: y23 :: y24 :: y25 :: y26 :: y27 :: y28 :: y29 :: y30 :: y31 :: y32 :: y33 :: y34 :: y35 :: y36 :: y37 :: y38 :: y39 :: y40 :: y41 :: y42 :: y43 :: y44 :: y45 :: y46 :: y47 :: y48 :: y49 :: y50 :: y51 :: y52 :: y53 :: y54 :: y55 :: y56 :: y57 :: y58 :: y59 :: y60 :: y61 :: y62 :: y63 :: y64 :: y65 :: y66 :: y67 :: y68 :: y69 :: y70 :: y71 :: y72 :: y73 :: y74 :: y75 :: y76 :: y77 :: y78 :: y79 :: y80 :: y81 :: y82 :: y83 :: y84 :: y85 :: y86 :: y87 :: y88 :: y89 :: y90 :: y91 :: y92 :: y93 :: y94 :: y95 :: y96 :: y97 :: y98 :: y99 :: y100 :: y101 :: y102 :: y103 :: y104 :: y105 :: y106 :: y107 :: y108 :: y109 :: y110 :: y111 :: y112 :: y113 :: y114 :: y115 :: y116 :: y117 :: y118 :: y119 :: y120 :: y121 :: y122 :: y123 :: y124 :: y125 :: y126 :: y127 :: y128 :: y129 :: y130 :: y131 :: y132 :: y133 :: y134 :: y135 :: y136 :: y137 :: y138 :: y139 :: y140 :: y141 :: y142 :: y143 :: y144 :: y145 :: y146 :: y147 :: y148 :: y149 :: y150 :: y151 :: y152 :: y153 :: y154 :: y155 :: y156 :: y157 :: y158 :: y159 :: y160 :: y161 :: y162 :: y163 :: y164 :: y165 :: y166 :: y167 :: y168 :: y169 :: y170 :: y171 :: y172 :: y173 :: y174 :: y175 :: y176 :: y177 :: y178 :: y179 :: y180 :: y181 :: y182 :: y183 :: y184 :: y185 :: y186 :: y187 :: y188 :: y189 :: y190 :: y191 :: y192 :: y193 :: y194 :: y195 :: y196 :: y197 :: y198 :: y199 :: y200 :: y201 :: y202 :: y203 :: y204 :: y205 :: y206 :: y207 :: y208 :: y209 :: y210 :: y211 :: y212 :: y213 :: y214 :: y215 :: y216 :: y217 :: y218 :: y219 :: y220 :: y221 :: y222 :: y223 :: y224 :: y225 :: y226 :: y227 :: y228 :: y229 :: y230 :: y231 :: y232 :: y233 :: y234 :: y235 :: y236 :: y237 :: y238 :: y239 :: y240 :: y241 :: y242 :: y243 :: y244 :: y245 :: y246 :: y247 :: y248 :: y249 :: y250 :: y251 :: y252 :: y253 :: y254 :: y255 :: y256 :: y257 :: y258 :: y259 :: y260 :: y261 :: y262 :: y263 :: y264 :: y265 :: y266 :: y267 :: y268 :: y269 :: y270 :: y271 :: y272 :: y273 :: y274 :: y275 :: y276 :: y277 :: y278 :: y279 :: y280 :: y281 :: y282 :: y283 :: y284 :: y285 :: y286 :: y287 :: y288 :: y289 :: y290 :: y291 :: y292 :: y293 :: y294 :: y295 :: y296 :: y297 :: y298 :: y299 :: y300 :: y301 :: y302 :: y303 :: y304 :: y305 :: y306 :: y307 :: y308 :: y309 :: y310 :: y311 :: y312 :: y313 :: y314 :: y315 :: y316 :: y317 :: y318 :: y319 :: y320 :: y321 :: y322 :: y323 :: y324 :: y325 :: y326 :: y327 :: y328 :: y329 :: y330 :: y331 :: y332 :: y333 :: y334 :: y335 :: y336 :: y337 :: y338 :: y339 :: y340 :: y341 :: y342 :: y343 :: y344 :: y345 :: y346 :: y347 :: y348 :: y349 :: y350 :: y351 :: y352 :: y353 :: y354 :: y355 :: y356 :: y357 :: y358 :: y359 :: y360 :: y361 :: y362 :: y363 :: y364 :: y365 :: y366 :: y367 :: y368 :: y369 :: y370 :: y371 :: y372 :: y373 :: y374 :: y375 :: y376 :: y377 :: y378 :: y379 :: y380 :: y381 :: y382 :: y383 :: y384 :: y385 :: y386 :: y387 :: y388 :: y389 :: y390 :: y391 :: y392 :: y393 :: y394 :: y395 :: y396 :: y397 :: y398 :: y399 :: y400 :: y401 :: y402 :: y403 :: y404 :: y405 :: y406 :: y407 :: y408 :: y409 :: y410 :: y411 :: y412 :: y413 :: y414 :: y415 :: y416 :: y417 :: y418 :: y419 :: y420 :: y421 :: y422 :: y423 :: y424 :: y425 :: y426 :: y427 :: y428 :: y429 :: y430 :: y431 :: y432 :: y433 :: y434 :: y435 :: y436 :: y437 :: y438 :: y439 :: y440 :: y441 :: y442 :: y443 :: y444 :: y445 :: y446 :: y447 :: y448 :: y449 :: y450 :: y451 :: y452 :: y453 :: y454 :: y455 :: y456 :: y457 :: y458 :: y459 :: y460 :: y461 :: y462 :: y463 :: y464 :: y465 :: y466 :: y467 :: y468 :: y469 :: y470 :: y471 :: y472 :: y473 :: y474 :: y475 :: y476 :: y477 :: y478 :: y479 :: y480 :: y481 :: y482 :: y483 :: y484 :: y485 :: y486 :: y487 :: y488 :: y489 :: y490 :: y491 :: y492 :: y493 :: y494 :: y495 :: y496 :: y497 :: y498 :: y499 :: y500 :: y501 :: y502 :: y503 :: y504 :: y505 :: y506 :: y507 :: y508 :: y509 :: y510 :: y511 :: y512 :: y513 :: y514 :: y515 :: y516 :: y517 :: y518 :: y519 :: y520 :: y521 :: y522 :: y523 :: y524 :: y525 :: y526 :: y527 :: y528 :: y529 :: y530 :: y531 :: y532 :: y533 :: y534 :: y535 :: y536 :: y537 :: y538 :: y539 :: y540 :: y541 :: y542 :: y543 :: y544 :: y545 :: y546 :: y547 :: y548 :: y549 :: y550 :: y551 :: y552 :: y553 :: y554 :: y555 :: y556 :: y557 :: y558 :: y559 :: y560 :: y561 :: y562 :: y563 :: y564 :: y565 :: y566 :: y567 :: y568 :: y569 :: y570 :: y571 :: y572 :: []), defers := [] } w') :
    (cutAt 1 (after 9 b4) C).wp Yba.prog (bodyPost Yba.prog Yba.f4 R) { tmps := List.toArray ((.slice a0 len0 cap0) :: (.slice a1 len1 cap1) :: u2 :: (.int .u64 pick) :: (.int .i64 q) :: u5 :: u6 :: u7 :: u8 :: u9 :: (.bool false) :: (.int .i64 (L.nk : Int)) :: (.int .i64 (n : Int)) :: (.slice (some ⟨ND, 0, none⟩) L.nk L.nk) :: u14 :: (.pointer (some ⟨L.GB, 0, none⟩)) :: (.slice (some ⟨WS, 0, none⟩) n n) :: (.slice (some ⟨NO, 0, none⟩) n n) :: u18 :: u19 :: u20 :: u21 :: u22 :: u23 :: u24 :: u25 :: u26 :: u27 :: u28 :: u29 :: u30 :: u31 :: u32 :: u33 :: u34 :: u35 :: u36 :: u37 :: u38 :: u39 :: u40 :: u41 :: u42 :: u43 :: u44 :: u45 :: u46 :: u47 :: u48 :: u49 :: u50 :: u51 :: u52 :: u53 :: u54 :: u55 :: u56 :: u57 :: u58 :: u59 :: u60 :: u61 :: u62 :: u63 :: u64 :: u65 :: u66 :: u67 :: u68 :: u69 :: u70 :: u71 :: u72 :: u73 :: u74 :: u75 :: u76 :: u77 :: u78 :: u79 :: u80 :: u81 :: u82 :: u83 :: u84 :: u85 :: u86 :: u87 :: u88 :: u89 :: u90 :: u91 :: u92 :: u93 :: u94 :: u95 :: u96 :: u97 :: u98 :: u99 :: u100 :: u101 :: u102 :: u103 :: u104 :: u105 :: u106 :: u107 :: u108 :: u109 :: u110 :: u111 :: u112 :: u113 :: u114 :: u115 :: u116 :: u117 :: u118 :: u119 :: u120 :: u121 :: u122 :: u123 :: u124 :: u125 :: u126 :: u127 :: u128 :: u129 :: u130 :: u131 :: u132 :: u133 :: u134 :: u135 :: u136 :: u137 :: u138 :: u139 :: u140 :: u141 :: u142 :: u143 :: u144 :: u145 :: u146 :: u147 :: u148 :: u149 :: u150 :: u151 :: u152 :: u153 :: u154 :: u155 :: u156 :: u157 :: u158 :: u159 :: u160 :: u161 :: u162 :: u163 :: u164 :: u165 :: u166 :: u167 :: u168 :: u169 :: u170 :: u171 :: u172 :: u173 :: u174 :: u175 :: u176 :: u177 :: u178 :: u179 :: u180 :: u181 :: u182 :: u183 :: u184 :: u185 :: u186 :: u187 :: u188 :: u189 :: u190 :: u191 :: u192 :: u193 :: u194 :: u195 :: u196 :: u197 :: u198 :: u199 :: u200 :: u201 :: u202 :: u203 :: u204 :: u205 :: u206 :: u207 :: u208 :: u209 :: u210 :: u211 :: u212 :: u213 :: u214 :: u215 :: u216 :: u217 :: u218 :: u219 :: u220 :: u221 :: u222 :: u223 :: u224 :: u225 :: u226 :: u227 :: u228 :: u229 :: u230 :: u231 :: u232 :: u233 :: u234 :: u235 :: u236 :: u237 :: u238 :: u239 :: u240 :: u241 :: u242 :: u243 :: u244 :: u245 :: u246 :: u247 :: u248 :: u249 :: u250 :: u251 :: u252 :: u253 :: u254 :: u255 :: u256 :: u257 :: u258 :: u259 :: u260 :: u261 :: u262 :: u263 :: u264 :: u265 :: u266 :: u267 :: u268 :: u269 :: u270 :: u271 :: u272 :: u273 :: u274 :: u275 :: u276 :: u277 :: u278 :: u279 :: u280 :: u281 :: u282 :: u283 :: u284 :: u285 :: u286 :: u287 :: u288 :: u289 :: u290 :: u291 :: u292 :: u293 :: u294 :: u295 :: u296 :: u297 :: u298 :: u299 :: u300 :: u301 :: u302 :: u303 :: u304 :: u305 :: u306 :: u307 :: u308 :: u309 :: u310 :: u311 :: u312 :: u313 :: u314 :: u315 :: u316 :: u317 :: u318 :: u319 :: u320 :: u321 :: u322 :: u323 :: u324 :: u325 :: u326 :: u327 :: u328 :: u329 :: u330 :: u331 :: u332 :: u333 :: u334 :: u335 :: u336 :: u337 :: u338 :: u339 :: u340 :: u341 :: u342 :: u343 :: u344 :: u345 :: u346 :: u347 :: u348 :: u349 :: u350 :: u351 :: u352 :: u353 :: u354 :: u355 :: u356 :: u357 :: u358 :: u359 :: u360 :: u361 :: u362 :: u363 :: u364 :: u365 :: u366 :: u367 :: u368 :: u369 :: u370 :: u371 :: u372 :: u373 :: u374 :: u375 :: u376 :: u377 :: u378 :: u379 :: u380 :: u381 :: u382 :: u383 :: u384 :: u385 :: u386 :: u387 :: u388 :: u389 :: u390 :: u391 :: u392 :: u393 :: u394 :: u395 :: u396 :: u397 :: u398 :: u399 :: u400 :: u401 :: u402 :: u403 :: u404 :: u405 :: u406 :: u407 :: u408 :: u409 :: u410 :: u411 :: u412 :: u413 :: u414 :: u415 :: u416 :: u417 :: u418 :: u419 :: u420 :: u421 :: u422 :: u423 :: u424 :: u425 :: u426 :: u427 :: u428 :: u429 :: u430 :: u431 :: u432 :: u433 :: u434 :: u435 :: u436 :: u437 :: u438 :: u439 :: u440 :: u441 :: u442 :: u443 :: u444 :: u445 :: u446 :: u447 :: u448 :: u449 :: u450 :: u451 :: u452 :: u453 :: u454 :: u455 :: u456 :: u457 :: u458 :: u459 :: u460 :: u461 :: u462 :: u463 :: u464 :: u465 :: u466 :: u467 :: u468 :: u469 :: u470 :: u471 :: u472 :: u473 :: u474 :: u475 :: u476 :: u477 :: u478 :: u479 :: u480 :: u481 :: u482 :: u483 :: u484 :: u485 :: u486 :: u487 :: u488 :: u489 :: u490 :: u491 :: u492 :: u493 :: u494 :: u495 :: u496 :: u497 :: u498 :: u499 :: u500 :: u501 :: u502 :: u503 :: u504 :: u505 :: u506 :: u507 :: u508 :: u509 :: u510 :: u511 :: u512 :: u513 :: u514 :: u515 :: u516 :: u517 :: u518 :: u519 :: u520 :: u521 :: u522 :: u523 :: u524 :: u525 :: u526 :: u527 :: u528 :: u529 :: u530 :: u531 :: u532 :: u533 :: u534 :: u535 :: u536 :: u537 :: u538 :: u539 :: u540 :: u541 :: u542 :: u543 :: u544 :: u545 :: u546 :: u547 :: u548 :: u549 :: u550 :: u551 :: u552 :: u553 :: u554 :: u555 :: u556 :: u557 :: u558 :: u559 :: u560 :: u561 :: u562 :: u563 :: u564 :: u565 :: u566 :: u567 :: u568 :: u569 :: u570 :: u571 :: u572 :: []), defers := [] } w := by
  have HL0 := hide h
  have HS0 := hide hs0
  have HS1 := hide hs1
  have HND := hide hnd
  have HID := hide hid
  have HID64 := hide hid64
  have HNDK := hide hndk
  have HSL := hide hsl
  have HC := hide hC
  have HWS := hide hWS
  have HNO := hide hNO
  have hn1 : n ≤ len0 + 1 := by omega
  have hn2 : len0 + 1 ≤ n := by omega
  clear h hs0 hs1 hnd hid hid64 hndk hsl hC hn hWS hNO
  conv => arg 2; simp only [b4, Yba.f4, after, cutAt]
  go_wp2
  go_loopw [18] (fun iv wr => ∃ (i : Nat) (K T : Nat → Nat) (s : Sta), i ≤ n ∧ iv = .int .i64 (i : Int) ∧ L2 w0 wr L q n i ND WS NO K T s) (fun iv _ => n - (intOf iv).toNat)
  case atStart => exact ⟨0, K, T, s, Nat.zero_le _, rfl, HL0.out⟩
  case round =>
    clear HL0 K T s
    obtain ⟨i, K, T, s, hi, rfl, hL⟩ := hrel
    have HL := hide hL
    clear hL
    by_cases hin : i < n
    · go_upto_if 95 with fail
      go_cut [19] (fun v wc => v = .int .i64 (L.nd i : Int) ∧ wc = wr)
      case first =>
        by_cases hi0 : 0 < i
        · obtain ⟨i', rfl⟩ : ∃ i', i = i' + 1 := ⟨i - 1, by omega⟩
          obtain ⟨b, off, rfl, hb, hcs⟩ := HS0.out (by omega)
          have y0 := HL.out.out.cell (hcs i' (by omega)) (by simp)
          have hx : i' < len0 := by omega
          have hm : Int.tmod (sl i' : Int) (L.nk : Int) = ((sl i' % L.nk : Nat) : Int) := (Int.ofNat_tmod (sl i') L.nk).symm
          have hz : ((L.nk : Int) == 0) = false := by rw [beq_eq_false_iff_ne]; omega
          have HE := hide (HND.out i' hx)
          have h256 := HSL.out i'
          clear hcs
          go_wp2
          go_meet
          case rel => exact ⟨by rw [HE.out]; simp, rfl⟩
        · obtain rfl : i = 0 := by omega
          go_wp2
          go_meet
          case rel => exact ⟨by rw [hnd0]; rfl, rfl⟩
      case rest =>
        obtain ⟨rfl, rfl⟩ := hcut
        have hi4 : i ≤ 4096 := by omega
        go_upto_if 109 with fail
        go_cut [20] (fun v wc2 => v = .int .u64 (L.id i : Int) ∧ wc2 = wc)
        case first =>
          by_cases hil : i < len1
          · obtain ⟨b, off, rfl, hb, hcs⟩ := HS1.out (by omega)
            have y0 := HL.out.out.cell (hcs i hil) (by simp)
            have HE : Hid (L.id i = ids i) := by show _ = _; rw [HID.out, if_pos hil]
            clear hcs
            go_wp2
            go_meet
            case rel => exact ⟨by rw [HE.out], rfl⟩
          · have HE : Hid (L.id i = i) := by show _ = _; rw [HID.out, if_neg hil]
            go_wp2
            go_meet
            case rel => exact ⟨by rw [HE.out], rfl⟩
        case rest =>
          obtain ⟨rfl, hwc⟩ := hcut
          subst hwc
          have hndi := HNDK.out i
          have d0 := nds_cell HL.out hndi
          have hwl := HL.out.blt.wl (L.nd i) hndi
          have hltN : ND < wc.heap.size := lt_of_block HL.out.nds
          have HP := hide (push_cells wc L i)
          have HM0 := hide (HL.out.m1 hndi)
          have HB := hide HL.out.blt
          have hlen0 : (s.wl (L.nd i)).length ≤ 4096 := by rw [hwl]; exact Nat.le_trans (wlOf_len _ _ _) hi4
          have hlenN : s.nl.length ≤ 4096 := by rw [HL.out.blt.nl]; exact Nat.le_trans (nlOf_len _ _) hi4
          have hsz : s.sz ≤ 4096 := by rw [HL.out.blt.sz]; exact Nat.le_trans (dc_le _ _) hi4
          have h64 := HID64.out i hin
          clear hwl
          have tok : True := trivial
          go_upto_if 143 with (go_at_call 12; go_must (refine (store_any ⟨wc.heap.size, 5, none⟩ (wc.heap.size + 1) _ _ (pushW wc L i) HP.out.1 HP.out.2.1 HP.out.2.2).mono ?_; rintro e w2 ⟨rfl, hw2⟩; have HM1 : Hid (M1 w0 w2 L n i ND WS NO (wc.heap.size + 1) wc.heap.size K T s) := (by rw [hw2]; exact HM0.out); clear hw2; have y10 := HM1.out.sys.n10 hndi; have y40 := HM1.out.sys.q40 hndi; dsimp only [Lay.at] at y10 y40))
          clear HP HM0 y10 y40 d0 HL
          generalize wc.heap.size + 1 = kb at *
          generalize wc.heap.size = tb at *
          go_cut [144] (fun _ wc3 => ∃ s3, M2 w0 wc3 L n i ND WS NO kb tb K T s s3)
          case first =>
            by_cases he : s.wl (L.nd i) = []
            · have HE := hide he
              have hz : (s.wl (L.nd i)).length = 0 := by rw [he]; rfl
              rw [hz]
              clear he hz hlen0
              go_wp2
              go_region_with (go_at_call 13; go_must (refine (addN_step HM1.out.sys.drew hndi (by dsimp only; omega)).mono ?_; rintro e w4 ⟨rfl, ao', cp', hs4, hf4, ho4⟩; have HM2 := hide (HM1.out.addN HE.out hs4 hf4 ho4); clear hs4 hf4 ho4))
              all_goals go_wp2
              all_goals go_meet
              all_goals exact ⟨_, HM2.out⟩
            · have HE := hide he
              obtain ⟨z, hz⟩ : ∃ z, (s.wl (L.nd i)).length = z + 1 := by
                cases h : s.wl (L.nd i) with
                | nil => exact absurd h he
                | cons a l => exact ⟨l.length, rfl⟩
              rw [hz]
              have hz1 : z ≤ 4096 := by omega
              clear he hz hlen0
              go_wp2
              go_meet
              case rel => exact ⟨_, HM1.out.skip HE.out⟩
          case rest =>
            clear HM1
            obtain ⟨s3, hM2⟩ := hcut
            have HM2 := hide hM2
            clear hM2
            have hl3 : (s3.wl (L.nd i)).length ≤ 4096 := by rw [HM2.out.wl]; exact hlen0
            have hsz3 : s3.sz < maxLen := by rw [HM2.out.rest.2.2.2]; unfold maxLen; omega
            go_upto_region 28 with fail
            go_cut [152] (fun _ wc4 => ∃ ao' cp' s4, s4 = { s3 with wl := upd s3.wl (L.nd i) (s3.wl (L.nd i) ++ [i]), ao := upd s3.ao (L.nd i) ao', cp := upd s3.cp (L.nd i) cp', pos := upd s3.pos i (s3.wl (L.nd i)).length } ∧ Sys wc4 (L.at (i + 1) (upd K i kb) (upd T i tb)) s4 ∧ Fr (L.at (i + 1) (upd K i kb) (upd T i tb)) s3 wc.drew wc4 ∧ ∀ g ∈ ownB ao' cp', g ∈ ownB (s3.ao (L.nd i)) (s3.cp (L.nd i)) ∨ wc.drew.heap.size ≤ g)
            case first =>
              have ei : (L.at (i + 1) (upd K i kb) (upd T i tb)).K i = kb := upd_same _ _ _
              have HA := hide (addW_step (i := i) HM2.out.sys.drew (Nat.lt_succ_self i) hndi (by show _ ≤ 200000; dsimp only [Lay.at]; omega))
              rw [ei] at HA
              clear ei
              go_region_with (go_at_call 14; go_must (refine HA.out.mono ?_; rintro e w4 ⟨rfl, ao', cp', hs4, hf4, ho4⟩; have HM3 := hide (And.intro hs4 (And.intro hf4 ho4)); clear hs4 hf4 ho4))
              all_goals go_wp2
              all_goals go_meet
              all_goals exact ⟨ao', cp', _, rfl, HM3.out⟩
            case rest =>
              obtain ⟨ao', cp', s4, e4, hs4, hf4, ho4⟩ := hcut
              have em : s4.sz < maxLen := by rw [e4]; exact hsz3
              obtain ⟨w5, hrun, hs5, hf5⟩ := hs4.putM h64 kb em
              obtain ⟨s6, ⟨ws5, no5⟩, hL6⟩ := M2.done HM2.out HB.out HNDK.out hin HWS.out HNO.out e4 hs4 hf4 ho4 hs5 hf5
              have HL6 := hide hL6
              have g7 := hs4.g7
              dsimp only [Lay.at] at g7 hrun
              have cW : w5.cell? ⟨WS, i, none⟩ = some (.pointer none) := by
                rw [cell_of_row w5 _ _ _ 46 (0, 0) ws5]
                simp [wsr, hin]
              have fW : w5.frozen? ⟨WS, i, none⟩ = false := frozen_of_row w5 _ _ _ 46 ws5
              have hWN : NO ≠ WS := ne_tag no5 ws5 (by decide)
              have cN : (w5.setCell ⟨WS, i, none⟩ (pv kb)).cell? ⟨NO, i, none⟩ = some (.int .i64 0) := by
                have c0 : w5.cell? ⟨NO, i, none⟩ = some (.int .i64 0) := by
                  rw [cell_of_row w5 _ _ _ 3 (0, 0) no5]
                  simp [nor, hin]
                exact ((Outside.refl [WS] w5).setCell WS i (.inl (by simp)) _).cell c0 (by simpa using hWN)
              have fN : (w5.setCell ⟨WS, i, none⟩ (pv kb)).frozen? ⟨NO, i, none⟩ = false := frozen_of_row _ _ _ _ 3 (((Outside.refl [WS] w5).setCell WS i (.inl (by simp)) _).obj no5 (by simpa using hWN))
              unfold pv at cN fN
              clear hL6 hs5 hf5 hs4 hf4 ho4 ws5 no5 HM2 em e4
              go_wp2
              go_roundw
              case rel => exact ⟨i + 1, _, _, s6, by omega, by go_num, HL6.out⟩
              case measure => simp [intOf]; omega
    · obtain rfl : i = n := by omega
      go_wp2
      apply unhide HC
      exact HL.out

end Go.Proofs.Ybulkdukm

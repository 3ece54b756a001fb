/-
  THE LAW's TEST OF THE MAP, WALKED (law B).
-/
import Derived.Test.YbulkdukmBPtr
namespace Go.Proofs.Ybulkdukm
open Go.RowKit
set_option linter.unusedVariables false

set_option maxRecDepth 100000 in
set_option maxHeartbeats 8000000 in
theorem p10 {u0 u1 u2 u3 u4 u5 u6 u7 u8 u9 u10 u11 u13 u14 u17 u18 u19 u20 u21 u22 u23 u24 u25 u26 u27 u28 u29 u30 u31 u32 u33 u34 u35 u36 u37 u38 u39 u40 u41 u43 u44 u45 u46 u47 u48 u49 u50 u51 u52 u53 u54 u55 u56 u57 u58 u59 u60 u61 u62 u63 u64 u65 u66 u67 u68 u69 u70 u71 u72 u73 u74 u75 u76 u77 u78 u79 u80 u81 u82 u83 u84 u85 u86 u87 u88 u89 u90 u91 u92 u93 u94 u95 u96 u97 u98 u99 u100 u101 u102 u103 u104 u105 u106 u107 u108 u109 u110 u111 u112 u113 u114 u115 u116 u117 u118 u119 u120 u121 u122 u123 u124 u125 u126 u127 u128 u129 u130 u131 u132 u133 u134 u135 u136 u137 u138 u139 u140 u141 u142 u143 u144 u145 u146 u147 u148 u149 u150 u151 u152 u153 u154 u155 u156 u157 u158 u159 u160 u161 u162 u163 u164 u165 u166 u167 u168 u169 u170 u171 u172 u173 u174 u175 u176 u177 u178 u179 u180 u181 u182 u183 u184 u185 u186 u187 u188 u189 u190 u191 u192 u193 u194 u195 u196 u197 u198 u199 u200 u201 u202 u203 u204 u205 u206 u207 u208 u209 u210 u211 u212 u213 u214 u215 u216 u217 u218 u219 u220 u221 u222 u223 u224 u225 u226 u227 u228 u229 u230 u231 u232 u233 u234 u235 u236 u237 u238 u239 u240 u241 u242 u243 u244 u245 u246 u247 u248 u249 u250 u251 u252 u253 u254 u255 u256 u257 u258 u259 u260 u261 u262 u263 u264 u265 u266 u267 u268 u269 u270 u271 u272 u273 u274 u275 u276 u277 u278 u279 u280 u281 u282 u283 u284 u285 u286 u287 u288 u289 u290 u291 u292 u293 u294 u295 u296 u297 u298 u299 u300 u301 u302 u303 u304 u305 u306 u307 u308 u309 u310 u311 u312 u313 u314 u315 u316 u317 u318 u319 u320 u321 u322 u323 u324 u325 u326 u327 u328 u329 u330 u331 u332 u333 u334 u335 u336 u337 u338 u339 u340 u341 u342 u343 u344 u345 u346 u347 u348 u349 u350 u351 u352 u353 u354 u355 u356 u357 u358 u359 u360 u361 u362 u363 u364 u365 u366 u367 u368 u369 u370 u371 u372 u373 u374 u375 u376 u377 u378 u379 u380 u381 u382 u383 u384 u385 u386 u387 u388 u389 u390 u391 u392 u393 u394 u395 u396 u397 u398 u399 u400 u401 u402 u403 u404 u405 u406 u407 u408 u409 u410 u411 u412 u413 u414 u415 u416 u417 u418 u419 u420 u421 u422 u423 u424 u425 u426 u427 u428 u429 u430 u431 u432 u433 u434 u435 u436 u437 u438 u439 u440 u441 u442 u443 u444 u445 u446 u447 u448 u449 u450 u451 u452 u453 u454 u455 u456 u457 u458 u459 u460 u461 u462 u463 u464 u465 u466 u467 u468 u469 u470 u471 u472 u473 u474 u475 u476 u477 u478 u479 u480 u481 u482 u483 u484 u485 u486 u487 u488 u489 u490 u491 u492 u493 u494 u495 u496 u497 u498 u499 u500 u501 u502 u503 u504 u505 u506 u507 u508 u509 u510 u511 u512 u513 u514 u515 u516 u517 u518 u519 u520 u521 u522 u523 u524 u525 u526 u527 u528 u529 u530 u531 u532 u533 u534 u535 u536 u537 u538 u539 u540 u541 u542 u543 u544 u545 u546 u547 u548 u549 u550 u551 u552 u553 u554 u555 u556 u557 u558 u559 u560 u561 u562 u563 u564 u565 u566 u567 u568 u569 u570 u571 u572 : Value} (R : Ending → World → Prop) (w : World) (L : Lay) (q : Int) (ND WS WB t ti p lW lN : Nat) (s s2 : Sta) (g : Nat → List Nat) (a : Nat → Option Addr) (c : Nat → Nat) (G : List Nat) (aN : Option Addr) (cN : Nat) (aE aF : Option Addr) (cE cF : Nat)
    (h : S5 w L ND WS WB (L.nd t) lW lN g a c G aN cN aE aF cE cF s2) (he : Held L q t ti p s s2) (hln : 0 < L.n ∧ L.n ≤ 4097) (htn : t < L.n) (hid64 : ∀ x, x < L.n → L.id x < 2 ^ 64)
    (hC : ∀ (w' : World), Outside [] w w' → R (.returned (.bool true)) w') :
    (after 37 b4).wp Yba.prog (bodyPost Yba.prog Yba.f4 R) { tmps := List.toArray (u0 :: u1 :: u2 :: u3 :: u4 :: u5 :: u6 :: u7 :: u8 :: u9 :: u10 :: u11 :: (.int .i64 (L.n : Int)) :: u13 :: u14 :: (.pointer (some ⟨L.GB, 0, none⟩)) :: (.slice (some ⟨WS, 0, none⟩) L.n L.n) :: u17 :: u18 :: u19 :: u20 :: u21 :: u22 :: u23 :: u24 :: u25 :: u26 :: u27 :: u28 :: u29 :: u30 :: u31 :: u32 :: u33 :: u34 :: u35 :: u36 :: u37 :: u38 :: u39 :: u40 :: u41 :: (.int .u64 (L.id t : Int)) :: u43 :: u44 :: u45 :: u46 :: u47 :: u48 :: u49 :: u50 :: u51 :: u52 :: u53 :: u54 :: u55 :: u56 :: u57 :: u58 :: u59 :: u60 :: u61 :: u62 :: u63 :: u64 :: u65 :: u66 :: u67 :: u68 :: u69 :: u70 :: u71 :: u72 :: u73 :: u74 :: u75 :: u76 :: u77 :: u78 :: u79 :: u80 :: u81 :: u82 :: u83 :: u84 :: u85 :: u86 :: u87 :: u88 :: u89 :: u90 :: u91 :: u92 :: u93 :: u94 :: u95 :: u96 :: u97 :: u98 :: u99 :: u100 :: u101 :: u102 :: u103 :: u104 :: u105 :: u106 :: u107 :: u108 :: u109 :: u110 :: u111 :: u112 :: u113 :: u114 :: u115 :: u116 :: u117 :: u118 :: u119 :: u120 :: u121 :: u122 :: u123 :: u124 :: u125 :: u126 :: u127 :: u128 :: u129 :: u130 :: u131 :: u132 :: u133 :: u134 :: u135 :: u136 :: u137 :: u138 :: u139 :: u140 :: u141 :: u142 :: u143 :: u144 :: u145 :: u146 :: u147 :: u148 :: u149 :: u150 :: u151 :: u152 :: u153 :: u154 :: u155 :: u156 :: u157 :: u158 :: u159 :: u160 :: u161 :: u162 :: u163 :: u164 :: u165 :: u166 :: u167 :: u168 :: u169 :: u170 :: u171 :: u172 :: u173 :: u174 :: u175 :: u176 :: u177 :: u178 :: u179 :: u180 :: u181 :: u182 :: u183 :: u184 :: u185 :: u186 :: u187 :: u188 :: u189 :: u190 :: u191 :: u192 :: u193 :: u194 :: u195 :: u196 :: u197 :: u198 :: u199 :: u200 :: u201 :: u202 :: u203 :: u204 :: u205 :: u206 :: u207 :: u208 :: u209 :: u210 :: u211 :: u212 :: u213 :: u214 :: u215 :: u216 :: u217 :: u218 :: u219 :: u220 :: u221 :: u222 :: u223 :: u224 :: u225 :: u226 :: u227 :: u228 :: u229 :: u230 :: u231 :: u232 :: u233 :: u234 :: u235 :: u236 :: u237 :: u238 :: u239 :: u240 :: u241 :: u242 :: u243 :: u244 :: u245 :: u246 :: u247 :: u248 :: u249 :: u250 :: u251 :: u252 :: u253 :: u254 :: u255 :: u256 :: u257 :: u258 :: u259 :: u260 :: u261 :: u262 :: u263 :: u264 :: u265 :: u266 :: u267 :: u268 :: u269 :: u270 :: u271 :: u272 :: u273 :: u274 :: u275 :: u276 :: u277 :: u278 :: u279 :: u280 :: u281 :: u282 :: u283 :: u284 :: u285 :: u286 :: u287 :: u288 :: u289 :: u290 :: u291 :: u292 :: u293 :: u294 :: u295 :: u296 :: u297 :: u298 :: u299 :: u300 :: u301 :: u302 :: u303 :: u304 :: u305 :: u306 :: u307 :: u308 :: u309 :: u310 :: u311 :: u312 :: u313 :: u314 :: u315 :: u316 :: u317 :: u318 :: u319 :: u320 :: u321 :: u322 :: u323 :: u324 :: u325 :: u326 :: u327 :: u328 :: u329 :: u330 :: u331 :: u332 :: u333 :: u334 :: u335 :: u336 :: u337 :: u338 :: u339 :: u340 :: u341 :: u342 :: u343 :: u344 :: u345 :: u346 :: u347 :: u348 :: u349 :: u350 :: u351 :: u352 :: u353 :: u354 :: u355 :: u356 :: u357 :: u358 :: u359 :: u360 :: u361 :: u362 :: u363 :: u364 :: u365 :: u366 :: u367 :: u368 :: u369 :: u370 :: u371 :: u372 :: u373 :: u374 :: u375 :: u376 :: u377 :: u378 :: u379 :: u380 :: u381 :: u382 :: u383 :: u384 :: u385 :: u386 :: u387 :: u388 :: u389 :: u390 :: u391 :: u392 :: u393 :: u394 :: u395 :: u396 :: u397 :: u398 :: u399 :: u400 :: u401 :: u402 :: u403 :: u404 :: u405 :: u406 :: u407 :: u408 :: u409 :: u410 :: u411 :: u412 :: u413 :: u414 :: u415 :: u416 :: u417 :: u418 :: u419 :: u420 :: u421 :: u422 :: u423 :: u424 :: u425 :: u426 :: u427 :: u428 :: u429 :: u430 :: u431 :: u432 :: u433 :: u434 :: u435 :: u436 :: u437 :: u438 :: u439 :: u440 :: u441 :: u442 :: u443 :: u444 :: u445 :: u446 :: u447 :: u448 :: u449 :: u450 :: u451 :: u452 :: u453 :: u454 :: u455 :: u456 :: u457 :: u458 :: u459 :: u460 :: u461 :: u462 :: u463 :: u464 :: u465 :: u466 :: u467 :: u468 :: u469 :: u470 :: u471 :: u472 :: u473 :: u474 :: u475 :: u476 :: u477 :: u478 :: u479 :: u480 :: u481 :: u482 :: u483 :: u484 :: u485 :: u486 :: u487 :: u488 :: u489 :: u490 :: u491 :: u492 :: u493 :: u494 :: u495 :: u496 :: u497 :: u498 :: u499 :: u500 :: u501 :: u502 :: u503 :: u504 :: u505 :: u506 :: u507 :: u508 :: u509 :: u510 :: u511 :: u512 :: u513 :: u514 :: u515 :: u516 :: u517 :: u518 :: u519 :: u520 :: u521 :: u522 :: u523 :: u524 :: u525 :: u526 :: u527 :: u528 :: u529 :: u530 :: u531 :: u532 :: u533 :: u534 :: u535 :: u536 :: u537 :: u538 :: u539 :: u540 :: u541 :: u542 :: u543 :: u544 :: u545 :: u546 :: u547 :: u548 :: u549 :: u550 :: u551 :: u552 :: u553 :: u554 :: u555 :: u556 :: u557 :: u558 :: u559 :: u560 :: u561 :: u562 :: u563 :: u564 :: u565 :: u566 :: u567 :: u568 :: u569 :: u570 :: u571 :: u572 :: []), defers := [] } w := by
  have HS := hide h
  have HE := hide he
  have HC := hide hC
  have HID := hide hid64
  have hidt := hid64 t htn
  clear h he hC hid64
  conv => arg 2; simp only [b4, Yba.f4, after, cutAt]
  go_wp2
  go_loopw [51] (fun iv wr => ∃ (i : Nat), i ≤ L.n ∧ iv = .int .i64 (i : Int) ∧ Outside [] w wr) (fun iv _ => L.n - (intOf iv).toNat)
  case atStart => exact ⟨0, Nat.zero_le _, rfl, Outside.refl _ _⟩
  case round =>
    obtain ⟨i, hi, rfl, hor⟩ := hrel
    have HOR := hide hor
    clear hor
    by_cases hin : i < L.n
    · have HS1 := hide (HS.out.outside HOR.out)
      have x1 := HS1.out.ws_cell hin
      have x2 := HS1.out.sys.k0 hin
      have x3 := HS1.out.sys.t1 hin
      have g7 := HS1.out.sys.g7
      have hidi := HID.out i hin
      have hlk := HS1.out.sys.mp.look hidi
      have hm := HE.out.m (L.id i)
      by_cases he : L.id i = L.id t
      · rw [if_pos he] at hm
        rw [hm] at hlk
        dsimp only [pb, Option.map, Option.isSome] at hlk
        have t0 : ((L.id i : Int) == (L.id t : Int)) = true := by rw [beq_iff_eq]; omega
        clear he hm
        go_wp2
        go_roundw
        case rel => exact ⟨i + 1, by omega, by go_num, HOR.out⟩
        case measure => simp [intOf]; omega
      · rw [if_neg he] at hm
        obtain ⟨l, hl⟩ : ∃ l, la (fun x => L.id x == L.id i) L.n = some l := by
          cases e : la (fun x => L.id x == L.id i) L.n with
          | some l => exact ⟨l, rfl⟩
          | none => have := la_none e i hin; simp at this
        rw [hl] at hm
        rw [hm] at hlk
        dsimp only [pb, Option.map, Option.isSome] at hlk
        have t0 : ((L.id i : Int) == (L.id t : Int)) = false := by rw [beq_eq_false_iff_ne]; omega
        have HL := hide hl
        have hla0 : la (fun x => L.id x == L.id i) (i + 1) = some i := la_grow (by simp)
        have HLA0 := hide hla0
        clear he hm hl hla0
        go_wp2
        clear x2 x3 g7 hlk
        go_loopw [55, 56] (fun lv kv wr2 => ∃ (k y : Nat), k ≤ L.n ∧ lv = .pointer (some ⟨L.K y, 0, none⟩) ∧ kv = .int .i64 (k : Int) ∧ la (fun x => L.id x == L.id i) k = some y ∧ Outside [] wr wr2) (fun _ kv _ => L.n - (intOf kv).toNat)
        case atStart => exact ⟨i + 1, i, by omega, rfl, by go_num, HLA0.out, Outside.refl _ _⟩
        case round =>
          obtain ⟨k, y, hk, rfl, rfl, hla, hor⟩ := hrel
          have HLA := hide hla
          have HOR2 := hide hor
          clear hla hor
          by_cases hkn : k < L.n
          · have hS := HS1.out.outside HOR2.out
            have k1 := hS.ws_cell hkn
            have k2 := hS.sys.k0 hkn
            have k3 := hS.sys.t1 hkn
            have hidk := HID.out k hkn
            clear hS
            by_cases he : L.id k = L.id i
            · have t1 : ((L.id k : Int) == (L.id i : Int)) = true := by rw [beq_iff_eq]; omega
              have HLN : Hid (la (fun x => L.id x == L.id i) (k + 1) = some k) := la_grow (by simpa using he)
              clear he
              go_wp2
              go_roundw
              case rel => exact ⟨k + 1, k, by omega, rfl, by go_num, HLN.out, HOR2.out⟩
              case measure => simp [intOf]; omega
            · have t1 : ((L.id k : Int) == (L.id i : Int)) = false := by rw [beq_eq_false_iff_ne]; omega
              have HLN : Hid (la (fun x => L.id x == L.id i) (k + 1) = some y) := by show _ = _; rw [la_grow_no (by simpa using he)]; exact HLA.out
              clear he
              go_wp2
              go_roundw
              case rel => exact ⟨k + 1, y, by omega, rfl, by go_num, HLN.out, HOR2.out⟩
              case measure => simp [intOf]; omega
          · obtain rfl : k = L.n := by omega
            obtain rfl : y = l := by
              have e := HL.out
              rw [HLA.out] at e
              exact Option.some.inj e
            have e46 := neqB46 (some ⟨L.K y, 0, none⟩)
            go_wp2
            go_roundw
            case rel => exact ⟨i + 1, by omega, by go_num, HOR.out.trans HOR2.out⟩
            case measure => simp [intOf]; omega
    · obtain rfl : i = L.n := by omega
      go_wp2
      exact HC.out _ HOR.out

end Go.Proofs.Ybulkdukm

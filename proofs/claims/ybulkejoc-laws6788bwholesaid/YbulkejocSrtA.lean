/- The law's inner loop of its sort (loop 5). -/
import Derived.Test.YbulkejocPart
import Derived.WideMake
import Derived.Deep.Cut
import Derived.Deep.CutRange
import Derived.Deep.QuietTactic
namespace Go.Proofs.Ybulkejoc
open Go.ChangeShapes Go.WideShapes Go.ChangeAt Go.RowKit
set_option maxRecDepth 1000000
variable {s0 s1 s2 s3 s4 s5 s6 s7 s8 s9 s10 s11 s12 s13 s14 s15 s16 s17 s18 s19 s20 s21 s22 s23 s24 s25 s26 s27 s28 s29 s30 s31 s32 s33 s34 s35 s36 s37 s38 s39 s40 s41 s42 s43 s44 s45 s46 s47 s48 s49 s50 s51 s52 s53 s54 s55 s56 s57 s58 s59 s60 s61 s62 s63 s64 s65 s66 s67 s68 s69 s70 s71 s72 s73 s74 s75 s76 s77 s78 s79 s80 s81 s82 s83 s84 s85 s86 s87 s88 s89 s90 s91 s92 s93 s94 s95 s96 s97 s98 s99 s100 s101 s102 s103 s104 s105 s106 s107 s108 s109 s110 s111 s112 s113 s114 s115 s116 s117 s118 s119 s120 s121 s122 s123 s124 s125 s126 s127 s128 s129 s130 s131 s132 s133 s134 s135 s136 s137 s138 s139 s140 s141 s142 s143 s144 s145 s146 s147 s148 s149 s150 s151 s152 s153 s154 s155 s156 s157 s158 s159 s160 s161 s162 s163 s164 s165 s166 s167 s168 s169 s170 s171 s172 s173 s174 s175 s176 s177 s178 s179 s180 s181 s182 s183 s184 s185 s186 s187 s188 s189 s190 s191 s192 s193 s194 s195 s196 s197 s198 s199 s200 s201 s202 s203 s204 s205 s206 s207 s208 s209 s210 s211 s212 s213 s214 s215 s216 s217 s218 s219 s220 s221 s222 s223 s224 s225 s226 s227 s228 s229 s230 s231 s232 s233 s234 s235 s236 s237 s238 s239 s240 s241 s242 s243 s244 s245 s246 s247 s248 s249 s250 s251 s252 s253 s254 s255 s256 s257 s258 s259 s260 s261 s262 s263 s264 s265 s266 s267 s268 s269 s270 s271 s272 s273 s274 s275 s276 s277 s278 s279 s280 s281 s282 s283 s284 s285 s286 s287 s288 s289 s290 s291 s292 s293 s294 s295 s296 s297 s298 s299 s300 s301 s302 s303 s304 s305 s306 s307 s308 s309 s310 s311 s312 s313 s314 s315 s316 s317 s318 s319 s320 s321 s322 s323 s324 s325 s326 s327 s328 s329 s330 s331 s332 s333 s334 s335 s336 s337 s338 s339 s340 s341 s342 s343 s344 s345 s346 s347 s348 s349 s350 s351 s352 s353 s354 s355 s356 s357 s358 s359 s360 s361 s362 s363 s364 s365 s366 s367 s368 s369 s370 s371 s372 s373 s374 s375 s376 s377 s378 s379 s380 s381 s382 s383 s384 s385 s386 s387 s388 s389 s390 s391 s392 s393 s394 s395 s396 s397 s398 s399 s400 s401 s402 s403 s404 s405 s406 s407 s408 s409 s410 s411 s412 s413 s414 s415 s416 s417 s418 s419 s420 s421 s422 s423 s424 s425 s426 s427 s428 s429 s430 s431 s432 s433 s434 s435 s436 s437 s438 s439 s440 s441 s442 s443 s444 s445 s446 s447 s448 s449 s450 s451 s452 s453 s454 s455 s456 s457 s458 s459 s460 s461 s462 s463 s464 s465 s466 s467 s468 s469 s470 s471 s472 s473 s474 s475 s476 s477 s478 s479 s480 s481 s482 s483 s484 s485 s486 s487 s488 s489 s490 s491 s492 s493 s494 s495 s496 s497 s498 s499 s500 s501 s502 s503 s504 s505 s506 s507 s508 s509 s510 s511 s512 s513 s514 s515 s516 s517 s518 s519 s520 s521 s522 s523 s524 s525 s526 s527 s528 s529 s530 s531 s532 s533 s534 : Value}

set_option maxHeartbeats 4000000 in
theorem srtA (gb n cap j : Nat) (P T : List (Mb × Int)) (x : Mb × Int) (rest : List Value) (w : World) (HP : Hid (P.length = j)) (HN : Hid (j + 1 + T.length = n)) (hn5 : n ≤ 100000) (hrow : Hid (MRow w gb (mid P j x T) rest)) {Q : Exit → Act → World → Prop}
    (hexit : ∀ a' w', (∃ u46 u47 u219 u220 u221 u222 u223 u224 u225 u226 u227 u228 u229 u230 u231 u232 u233 u234 u235 u236 u237 u238 u239 u240 u241 u242 u243 u244 u245 u246 u247 u248 u249 u250 u251 u252 u253 : Value, (Hid (Kept (fun b => b = gb) w w' ∧ ∃ k, k ≤ P.length ∧ MRow w' gb (mid P k x T) rest ∧ (∀ y ∈ P.drop k, x.2 < y.2) ∧ (0 < k → ∀ h : k - 1 < P.length, P[k - 1].2 ≤ x.2))) ∧ a' = ⟨List.toArray (s0 :: s1 :: s2 :: s3 :: s4 :: s5 :: s6 :: s7 :: s8 :: s9 :: s10 :: s11 :: s12 :: s13 :: s14 :: s15 :: s16 :: s17 :: s18 :: s19 :: s20 :: s21 :: s22 :: s23 :: s24 :: s25 :: s26 :: s27 :: s28 :: (.slice (some ⟨gb, 0, none⟩) n cap) :: s30 :: s31 :: s32 :: s33 :: s34 :: s35 :: s36 :: s37 :: s38 :: s39 :: s40 :: s41 :: s42 :: s43 :: s44 :: s45 :: u46 :: u47 :: s48 :: s49 :: s50 :: s51 :: s52 :: s53 :: s54 :: s55 :: s56 :: s57 :: s58 :: s59 :: s60 :: s61 :: s62 :: s63 :: s64 :: s65 :: s66 :: s67 :: s68 :: s69 :: s70 :: s71 :: s72 :: s73 :: s74 :: s75 :: s76 :: s77 :: s78 :: s79 :: s80 :: s81 :: s82 :: s83 :: s84 :: s85 :: s86 :: s87 :: s88 :: s89 :: s90 :: s91 :: s92 :: s93 :: s94 :: s95 :: s96 :: s97 :: s98 :: s99 :: s100 :: s101 :: s102 :: s103 :: s104 :: s105 :: s106 :: s107 :: s108 :: s109 :: s110 :: s111 :: s112 :: s113 :: s114 :: s115 :: s116 :: s117 :: s118 :: s119 :: s120 :: s121 :: s122 :: s123 :: s124 :: s125 :: s126 :: s127 :: s128 :: s129 :: s130 :: s131 :: s132 :: s133 :: s134 :: s135 :: s136 :: s137 :: s138 :: s139 :: s140 :: s141 :: s142 :: s143 :: s144 :: s145 :: s146 :: s147 :: s148 :: s149 :: s150 :: s151 :: s152 :: s153 :: s154 :: s155 :: s156 :: s157 :: s158 :: s159 :: s160 :: s161 :: s162 :: s163 :: s164 :: s165 :: s166 :: s167 :: s168 :: s169 :: s170 :: s171 :: s172 :: s173 :: s174 :: s175 :: s176 :: s177 :: s178 :: s179 :: s180 :: s181 :: s182 :: s183 :: s184 :: s185 :: s186 :: s187 :: s188 :: s189 :: s190 :: s191 :: s192 :: s193 :: s194 :: s195 :: s196 :: s197 :: s198 :: s199 :: s200 :: s201 :: s202 :: s203 :: s204 :: s205 :: s206 :: s207 :: s208 :: s209 :: s210 :: s211 :: s212 :: s213 :: s214 :: s215 :: s216 :: s217 :: s218 :: u219 :: u220 :: u221 :: u222 :: u223 :: u224 :: u225 :: u226 :: u227 :: u228 :: u229 :: u230 :: u231 :: u232 :: u233 :: u234 :: u235 :: u236 :: u237 :: u238 :: u239 :: u240 :: u241 :: u242 :: u243 :: u244 :: u245 :: u246 :: u247 :: u248 :: u249 :: u250 :: u251 :: u252 :: u253 :: s254 :: s255 :: s256 :: s257 :: s258 :: s259 :: s260 :: s261 :: s262 :: s263 :: s264 :: s265 :: s266 :: s267 :: s268 :: s269 :: s270 :: s271 :: s272 :: s273 :: s274 :: s275 :: s276 :: s277 :: s278 :: s279 :: s280 :: s281 :: s282 :: s283 :: s284 :: s285 :: s286 :: s287 :: s288 :: s289 :: s290 :: s291 :: s292 :: s293 :: s294 :: s295 :: s296 :: s297 :: s298 :: s299 :: s300 :: s301 :: s302 :: s303 :: s304 :: s305 :: s306 :: s307 :: s308 :: s309 :: s310 :: s311 :: s312 :: s313 :: s314 :: s315 :: s316 :: s317 :: s318 :: s319 :: s320 :: s321 :: s322 :: s323 :: s324 :: s325 :: s326 :: s327 :: s328 :: s329 :: s330 :: s331 :: s332 :: s333 :: s334 :: s335 :: s336 :: s337 :: s338 :: s339 :: s340 :: s341 :: s342 :: s343 :: s344 :: s345 :: s346 :: s347 :: s348 :: s349 :: s350 :: s351 :: s352 :: s353 :: s354 :: s355 :: s356 :: s357 :: s358 :: s359 :: s360 :: s361 :: s362 :: s363 :: s364 :: s365 :: s366 :: s367 :: s368 :: s369 :: s370 :: s371 :: s372 :: s373 :: s374 :: s375 :: s376 :: s377 :: s378 :: s379 :: s380 :: s381 :: s382 :: s383 :: s384 :: s385 :: s386 :: s387 :: s388 :: s389 :: s390 :: s391 :: s392 :: s393 :: s394 :: s395 :: s396 :: s397 :: s398 :: s399 :: s400 :: s401 :: s402 :: s403 :: s404 :: s405 :: s406 :: s407 :: s408 :: s409 :: s410 :: s411 :: s412 :: s413 :: s414 :: s415 :: s416 :: s417 :: s418 :: s419 :: s420 :: s421 :: s422 :: s423 :: s424 :: s425 :: s426 :: s427 :: s428 :: s429 :: s430 :: s431 :: s432 :: s433 :: s434 :: s435 :: s436 :: s437 :: s438 :: s439 :: s440 :: s441 :: s442 :: s443 :: s444 :: s445 :: s446 :: s447 :: s448 :: s449 :: s450 :: s451 :: s452 :: s453 :: s454 :: s455 :: s456 :: s457 :: s458 :: s459 :: s460 :: s461 :: s462 :: s463 :: s464 :: s465 :: s466 :: s467 :: s468 :: s469 :: s470 :: s471 :: s472 :: s473 :: s474 :: s475 :: s476 :: s477 :: s478 :: s479 :: s480 :: s481 :: s482 :: s483 :: s484 :: s485 :: s486 :: s487 :: s488 :: s489 :: s490 :: s491 :: s492 :: s493 :: s494 :: s495 :: s496 :: s497 :: s498 :: s499 :: s500 :: s501 :: s502 :: s503 :: s504 :: s505 :: s506 :: s507 :: s508 :: s509 :: s510 :: s511 :: s512 :: s513 :: s514 :: s515 :: s516 :: s517 :: s518 :: s519 :: s520 :: s521 :: s522 :: s523 :: s524 :: s525 :: s526 :: s527 :: s528 :: s529 :: s530 :: s531 :: s532 :: s533 :: s534 :: []), []⟩) → Q (.exit 8) a' w') :
    Code.wp Yba.prog ((Yba.f3.body.bind (blk 8)).getD .skip) Q ⟨List.toArray (s0 :: s1 :: s2 :: s3 :: s4 :: s5 :: s6 :: s7 :: s8 :: s9 :: s10 :: s11 :: s12 :: s13 :: s14 :: s15 :: s16 :: s17 :: s18 :: s19 :: s20 :: s21 :: s22 :: s23 :: s24 :: s25 :: s26 :: s27 :: s28 :: (.slice (some ⟨gb, 0, none⟩) n cap) :: s30 :: s31 :: s32 :: s33 :: s34 :: s35 :: s36 :: s37 :: s38 :: s39 :: s40 :: s41 :: s42 :: s43 :: s44 :: s45 :: (.int .i64 (j : Int)) :: s47 :: s48 :: s49 :: s50 :: s51 :: s52 :: s53 :: s54 :: s55 :: s56 :: s57 :: s58 :: s59 :: s60 :: s61 :: s62 :: s63 :: s64 :: s65 :: s66 :: s67 :: s68 :: s69 :: s70 :: s71 :: s72 :: s73 :: s74 :: s75 :: s76 :: s77 :: s78 :: s79 :: s80 :: s81 :: s82 :: s83 :: s84 :: s85 :: s86 :: s87 :: s88 :: s89 :: s90 :: s91 :: s92 :: s93 :: s94 :: s95 :: s96 :: s97 :: s98 :: s99 :: s100 :: s101 :: s102 :: s103 :: s104 :: s105 :: s106 :: s107 :: s108 :: s109 :: s110 :: s111 :: s112 :: s113 :: s114 :: s115 :: s116 :: s117 :: s118 :: s119 :: s120 :: s121 :: s122 :: s123 :: s124 :: s125 :: s126 :: s127 :: s128 :: s129 :: s130 :: s131 :: s132 :: s133 :: s134 :: s135 :: s136 :: s137 :: s138 :: s139 :: s140 :: s141 :: s142 :: s143 :: s144 :: s145 :: s146 :: s147 :: s148 :: s149 :: s150 :: s151 :: s152 :: s153 :: s154 :: s155 :: s156 :: s157 :: s158 :: s159 :: s160 :: s161 :: s162 :: s163 :: s164 :: s165 :: s166 :: s167 :: s168 :: s169 :: s170 :: s171 :: s172 :: s173 :: s174 :: s175 :: s176 :: s177 :: s178 :: s179 :: s180 :: s181 :: s182 :: s183 :: s184 :: s185 :: s186 :: s187 :: s188 :: s189 :: s190 :: s191 :: s192 :: s193 :: s194 :: s195 :: s196 :: s197 :: s198 :: s199 :: s200 :: s201 :: s202 :: s203 :: s204 :: s205 :: s206 :: s207 :: s208 :: s209 :: s210 :: s211 :: s212 :: s213 :: s214 :: s215 :: s216 :: s217 :: s218 :: s219 :: s220 :: s221 :: s222 :: s223 :: s224 :: s225 :: s226 :: s227 :: s228 :: s229 :: s230 :: s231 :: s232 :: s233 :: s234 :: s235 :: s236 :: s237 :: s238 :: s239 :: s240 :: s241 :: s242 :: s243 :: s244 :: s245 :: s246 :: s247 :: s248 :: s249 :: s250 :: s251 :: s252 :: s253 :: s254 :: s255 :: s256 :: s257 :: s258 :: s259 :: s260 :: s261 :: s262 :: s263 :: s264 :: s265 :: s266 :: s267 :: s268 :: s269 :: s270 :: s271 :: s272 :: s273 :: s274 :: s275 :: s276 :: s277 :: s278 :: s279 :: s280 :: s281 :: s282 :: s283 :: s284 :: s285 :: s286 :: s287 :: s288 :: s289 :: s290 :: s291 :: s292 :: s293 :: s294 :: s295 :: s296 :: s297 :: s298 :: s299 :: s300 :: s301 :: s302 :: s303 :: s304 :: s305 :: s306 :: s307 :: s308 :: s309 :: s310 :: s311 :: s312 :: s313 :: s314 :: s315 :: s316 :: s317 :: s318 :: s319 :: s320 :: s321 :: s322 :: s323 :: s324 :: s325 :: s326 :: s327 :: s328 :: s329 :: s330 :: s331 :: s332 :: s333 :: s334 :: s335 :: s336 :: s337 :: s338 :: s339 :: s340 :: s341 :: s342 :: s343 :: s344 :: s345 :: s346 :: s347 :: s348 :: s349 :: s350 :: s351 :: s352 :: s353 :: s354 :: s355 :: s356 :: s357 :: s358 :: s359 :: s360 :: s361 :: s362 :: s363 :: s364 :: s365 :: s366 :: s367 :: s368 :: s369 :: s370 :: s371 :: s372 :: s373 :: s374 :: s375 :: s376 :: s377 :: s378 :: s379 :: s380 :: s381 :: s382 :: s383 :: s384 :: s385 :: s386 :: s387 :: s388 :: s389 :: s390 :: s391 :: s392 :: s393 :: s394 :: s395 :: s396 :: s397 :: s398 :: s399 :: s400 :: s401 :: s402 :: s403 :: s404 :: s405 :: s406 :: s407 :: s408 :: s409 :: s410 :: s411 :: s412 :: s413 :: s414 :: s415 :: s416 :: s417 :: s418 :: s419 :: s420 :: s421 :: s422 :: s423 :: s424 :: s425 :: s426 :: s427 :: s428 :: s429 :: s430 :: s431 :: s432 :: s433 :: s434 :: s435 :: s436 :: s437 :: s438 :: s439 :: s440 :: s441 :: s442 :: s443 :: s444 :: s445 :: s446 :: s447 :: s448 :: s449 :: s450 :: s451 :: s452 :: s453 :: s454 :: s455 :: s456 :: s457 :: s458 :: s459 :: s460 :: s461 :: s462 :: s463 :: s464 :: s465 :: s466 :: s467 :: s468 :: s469 :: s470 :: s471 :: s472 :: s473 :: s474 :: s475 :: s476 :: s477 :: s478 :: s479 :: s480 :: s481 :: s482 :: s483 :: s484 :: s485 :: s486 :: s487 :: s488 :: s489 :: s490 :: s491 :: s492 :: s493 :: s494 :: s495 :: s496 :: s497 :: s498 :: s499 :: s500 :: s501 :: s502 :: s503 :: s504 :: s505 :: s506 :: s507 :: s508 :: s509 :: s510 :: s511 :: s512 :: s513 :: s514 :: s515 :: s516 :: s517 :: s518 :: s519 :: s520 :: s521 :: s522 :: s523 :: s524 :: s525 :: s526 :: s527 :: s528 :: s529 :: s530 :: s531 :: s532 :: s533 :: s534 :: []), []⟩ w := by
  conv => arg 2; whnf
  go_loopw [46] (fun v46 wr => ∃ k : Nat, k ≤ j ∧ v46 = .int .i64 (k : Int) ∧ Hid (Kept (fun b => b = gb) w wr ∧ MRow wr gb (mid P k x T) rest ∧ (∀ y ∈ P.drop k, x.2 < y.2))) (fun v46 _ => (intOf v46).toNat)
  case atStart => exact ⟨j, Nat.le_refl _, rfl, Kept.refl _ _, hrow.out, by have := HP.out; rw [List.drop_of_length_le (by omega)]; simp⟩
  case round =>
    obtain ⟨k, hk, rfl, H⟩ := hrel
    by_cases h0 : 0 < k
    · obtain ⟨k, rfl⟩ : ∃ j, k = j + 1 := ⟨k - 1, by omega⟩
      have hkl : Hid (k < P.length) := by have := HP.out; show k < P.length; omega
      have hkn : (k : Int) + 1 < (n : Int) := by have := HN.out; omega
      obtain ⟨y, Hy⟩ : ∃ y, Hid (∀ h : k < P.length, P[k] = y) := ⟨P[k]'hkl.out, fun _ => rfl⟩
      have hl1 : k + 1 < (mid P (k + 1) x T).length := by rw [mid_len]; have := hkl.out; omega
      have hl0 : k < (mid P (k + 1) x T).length := by rw [mid_len]; have := hkl.out; omega
      have e1 : (mid P (k + 1) x T)[k + 1] = x := by
        have := mid_at P (k + 1) (by have := hkl.out; omega) x T
        rw [List.getElem?_eq_getElem hl1] at this
        exact Option.some.inj this
      have e0 : (mid P (k + 1) x T)[k] = y := by
        have := mid_below P k hkl.out x T
        rw [List.getElem?_eq_getElem hl0, Hy.out] at this
        exact Option.some.inj this
      have hcs : ∀ w', MRow w' gb (mid P (k + 1) x T) rest → _ := fun w' h => And.intro (h.cells hl1) (h.cells hl0)
      simp only [e1, e0] at hcs
      have Hcs : Hid (∀ w', MRow w' gb (mid P (k + 1) x T) rest → _) := hcs
      have c14 := (hcs wr H.out.2.1).1.2.2.2.2
      have c04 := (hcs wr H.out.2.1).2.2.2.2.2
      clear e1 e0 hl0 hl1 hcs
      by_cases hc : x.2 < y.2
      · go_wp2
        go_quiet (fail)
        clear c14 c04
        have H2 : Hid (Kept (fun b => b = gb) w (wr.drewN nq) ∧ MRow (wr.drewN nq) gb (mid P (k + 1) x T) rest) := ⟨H.out.1.drewN nq, H.out.2.1.drewN nq⟩
        generalize wr.drewN nq = w2 at H2 ⊢
        obtain ⟨⟨c10, c11, c12, c13, c14⟩, c00, c01, c02, c03, c04⟩ := Hcs.out w2 H2.out.2
        have f1 := H2.out.2.frozen ((k + 1) * 5)
        have f2 := H2.out.2.frozen ((k + 1) * 5 + 1)
        have f3 := H2.out.2.frozen ((k + 1) * 5 + 1 + 1)
        have f4 := H2.out.2.frozen ((k + 1) * 5 + 1 + 1 + 1)
        have f5 := H2.out.2.frozen ((k + 1) * 5 + 1 + 1 + 1 + 1)
        have g1 := H2.out.2.frozen (k * 5)
        have g2 := H2.out.2.frozen (k * 5 + 1)
        have g3 := H2.out.2.frozen (k * 5 + 1 + 1)
        have g4 := H2.out.2.frozen (k * 5 + 1 + 1 + 1)
        have g5 := H2.out.2.frozen (k * 5 + 1 + 1 + 1 + 1)
        have hgb : gb < w2.heap.size := lt_of_heap H2.out.2
        have Hn : Hid (∀ o, Kept (fun b => b = gb) w ((((((((((((w2.setCell ⟨gb, (k + 1) * 5, none⟩ (.string y.1.addr)).setCell ⟨gb, (k + 1) * 5 + 1, none⟩ (.int .u64 y.1.tok)).setCell ⟨gb, (k + 1) * 5 + 1 + 1, none⟩ (.int .u8 y.1.st)).setCell ⟨gb, (k + 1) * 5 + 1 + 1 + 1, none⟩ (.int .u64 y.1.inc)).setCell ⟨gb, (k + 1) * 5 + 1 + 1 + 1 + 1, none⟩ (.int .i64 y.2)).setCell ⟨gb, k * 5, none⟩ (.string x.1.addr)).setCell ⟨gb, k * 5 + 1, none⟩ (.int .u64 x.1.tok)).setCell ⟨gb, k * 5 + 1 + 1, none⟩ (.int .u8 x.1.st)).setCell ⟨gb, k * 5 + 1 + 1 + 1, none⟩ (.int .u64 x.1.inc)).setCell ⟨gb, k * 5 + 1 + 1 + 1 + 1, none⟩ (.int .i64 x.2))).alloc o) ∧ MRow ((((((((((((w2.setCell ⟨gb, (k + 1) * 5, none⟩ (.string y.1.addr)).setCell ⟨gb, (k + 1) * 5 + 1, none⟩ (.int .u64 y.1.tok)).setCell ⟨gb, (k + 1) * 5 + 1 + 1, none⟩ (.int .u8 y.1.st)).setCell ⟨gb, (k + 1) * 5 + 1 + 1 + 1, none⟩ (.int .u64 y.1.inc)).setCell ⟨gb, (k + 1) * 5 + 1 + 1 + 1 + 1, none⟩ (.int .i64 y.2)).setCell ⟨gb, k * 5, none⟩ (.string x.1.addr)).setCell ⟨gb, k * 5 + 1, none⟩ (.int .u64 x.1.tok)).setCell ⟨gb, k * 5 + 1 + 1, none⟩ (.int .u8 x.1.st)).setCell ⟨gb, k * 5 + 1 + 1 + 1, none⟩ (.int .u64 x.1.inc)).setCell ⟨gb, k * 5 + 1 + 1 + 1 + 1, none⟩ (.int .i64 x.2))).alloc o) gb (mid P k x T) rest ∧ (∀ z ∈ P.drop k, x.2 < z.2)) := by
          intro o
          have hkl' := hkl.out
          have m1 := H2.out.2.set (k := k + 1) (by rw [mid_len]; omega) y
          have m2 := m1.set (k := k) (by rw [List.length_set, mid_len]; omega) x
          rw [← Hy.out hkl', mid_swap P k hkl' x T] at m2
          refine ⟨?_, by have := m2.alloc o; rw [← Hy.out hkl']; exact this, ?_⟩
          · refine Kept.alloc ?_ o
            (iterate 10 refine Kept.setCell (S := fun b => b = gb) ?_ (fun _ => rfl) _)
            exact H2.out.1
          · intro z hz
            rw [List.drop_eq_getElem_cons hkl', Hy.out] at hz
            rcases List.mem_cons.1 hz with rfl | hz
            · exact hc
            · exact H.out.2.2 z hz
        go_wp2
        go_roundw
        case rel => exact ⟨k, by omega, by go_num, Hn.out _⟩
        case measure => simp [intOf]
      · go_wp2
        go_quiet (fail)
        clear c14 c04
        have H2 : Hid (Kept (fun b => b = gb) w (wr.drewN nq) ∧ MRow (wr.drewN nq) gb (mid P (k + 1) x T) rest) := ⟨H.out.1.drewN nq, H.out.2.1.drewN nq⟩
        generalize wr.drewN nq = w2 at H2 ⊢
        go_wp2
        repeat apply Exists.intro
        refine ⟨⟨H2.out.1, k + 1, by have := hkl.out; omega, H2.out.2, H.out.2.2, fun _ h => ?_⟩, rfl⟩
        have := Hy.out h
        simp only [Nat.add_sub_cancel, this]
        omega
    · have hk0 : k = 0 := by omega
      subst hk0
      go_wp2
      go_quiet (fail)
      have H2 : Hid (Kept (fun b => b = gb) w (wr.drewN nq) ∧ MRow (wr.drewN nq) gb (mid P 0 x T) rest) := ⟨H.out.1.drewN nq, H.out.2.1.drewN nq⟩
      generalize wr.drewN nq = w2 at H2 ⊢
      go_wp2
      repeat apply Exists.intro
      exact ⟨⟨H2.out.1, 0, Nat.zero_le _, H2.out.2, H.out.2.2, fun h => absurd h (by omega)⟩, rfl⟩
end Go.Proofs.Ybulkejoc

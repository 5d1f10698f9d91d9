/- The law's sort (loops 4 and 5). -/
import Derived.Test.YbulkejocSrtA
namespace Go.Proofs.Ybulkejoc
open Go.ChangeShapes Go.WideShapes Go.ChangeAt Go.RowKit
set_option maxRecDepth 1000000
variable {s0 s1 s2 s3 s4 s5 s6 s7 s8 s9 s10 s11 s12 s13 s14 s15 s16 s17 s18 s19 s20 s21 s22 s23 s24 s25 s26 s27 s28 s29 s30 s31 s32 s33 s34 s35 s36 s37 s38 s39 s40 s41 s42 s43 s44 s45 s46 s47 s48 s49 s50 s51 s52 s53 s54 s55 s56 s57 s58 s59 s60 s61 s62 s63 s64 s65 s66 s67 s68 s69 s70 s71 s72 s73 s74 s75 s76 s77 s78 s79 s80 s81 s82 s83 s84 s85 s86 s87 s88 s89 s90 s91 s92 s93 s94 s95 s96 s97 s98 s99 s100 s101 s102 s103 s104 s105 s106 s107 s108 s109 s110 s111 s112 s113 s114 s115 s116 s117 s118 s119 s120 s121 s122 s123 s124 s125 s126 s127 s128 s129 s130 s131 s132 s133 s134 s135 s136 s137 s138 s139 s140 s141 s142 s143 s144 s145 s146 s147 s148 s149 s150 s151 s152 s153 s154 s155 s156 s157 s158 s159 s160 s161 s162 s163 s164 s165 s166 s167 s168 s169 s170 s171 s172 s173 s174 s175 s176 s177 s178 s179 s180 s181 s182 s183 s184 s185 s186 s187 s188 s189 s190 s191 s192 s193 s194 s195 s196 s197 s198 s199 s200 s201 s202 s203 s204 s205 s206 s207 s208 s209 s210 s211 s212 s213 s214 s215 s216 s217 s218 s219 s220 s221 s222 s223 s224 s225 s226 s227 s228 s229 s230 s231 s232 s233 s234 s235 s236 s237 s238 s239 s240 s241 s242 s243 s244 s245 s246 s247 s248 s249 s250 s251 s252 s253 s254 s255 s256 s257 s258 s259 s260 s261 s262 s263 s264 s265 s266 s267 s268 s269 s270 s271 s272 s273 s274 s275 s276 s277 s278 s279 s280 s281 s282 s283 s284 s285 s286 s287 s288 s289 s290 s291 s292 s293 s294 s295 s296 s297 s298 s299 s300 s301 s302 s303 s304 s305 s306 s307 s308 s309 s310 s311 s312 s313 s314 s315 s316 s317 s318 s319 s320 s321 s322 s323 s324 s325 s326 s327 s328 s329 s330 s331 s332 s333 s334 s335 s336 s337 s338 s339 s340 s341 s342 s343 s344 s345 s346 s347 s348 s349 s350 s351 s352 s353 s354 s355 s356 s357 s358 s359 s360 s361 s362 s363 s364 s365 s366 s367 s368 s369 s370 s371 s372 s373 s374 s375 s376 s377 s378 s379 s380 s381 s382 s383 s384 s385 s386 s387 s388 s389 s390 s391 s392 s393 s394 s395 s396 s397 s398 s399 s400 s401 s402 s403 s404 s405 s406 s407 s408 s409 s410 s411 s412 s413 s414 s415 s416 s417 s418 s419 s420 s421 s422 s423 s424 s425 s426 s427 s428 s429 s430 s431 s432 s433 s434 s435 s436 s437 s438 s439 s440 s441 s442 s443 s444 s445 s446 s447 s448 s449 s450 s451 s452 s453 s454 s455 s456 s457 s458 s459 s460 s461 s462 s463 s464 s465 s466 s467 s468 s469 s470 s471 s472 s473 s474 s475 s476 s477 s478 s479 s480 s481 s482 s483 s484 s485 s486 s487 s488 s489 s490 s491 s492 s493 s494 s495 s496 s497 s498 s499 s500 s501 s502 s503 s504 s505 s506 s507 s508 s509 s510 s511 s512 s513 s514 s515 s516 s517 s518 s519 s520 s521 s522 s523 s524 s525 s526 s527 s528 s529 s530 s531 s532 s533 s534 : Value}

/-- The row that a slice of the model points at. -/
def ARow (w : World) (A : Option Addr) (M : List (Mb × Int)) : Prop := ∀ i, i < M.length → ∃ gb rest, A = some ⟨gb, 0, none⟩ ∧ MRow w gb M rest
/-- The row M has become M'. -/
structure Srt (w : World) (A : Option Addr) (M M' : List (Mb × Int)) (w' : World) : Prop where
  kept : Kept (fun b => (Value.slice A 0 0).ownBlock = some b) w w'
  row : ∀ gb rest, A = some ⟨gb, 0, none⟩ → MRow w gb M rest → MRow w' gb M' rest

theorem isortV_one {M : List (Mb × Int)} (h : M.length ≤ 1) : isortV M = M := by
  match M, h with
  | [], _ => rfl
  | [x], _ => rfl

set_option maxHeartbeats 4000000 in
theorem srtB (A : Option Addr) (n cap : Nat) (M : List (Mb × Int)) (w : World) (HN : Hid (M.length = n)) (hrow : Hid (ARow w A M)) (hn5 : n ≤ 100000) {Q : Exit → Act → World → Prop}
    (hexit : ∀ a' w', (∃ u45 u46 u47 u212 u213 u214 u215 u216 u217 u218 u219 u220 u221 u222 u223 u224 u225 u226 u227 u228 u229 u230 u231 u232 u233 u234 u235 u236 u237 u238 u239 u240 u241 u242 u243 u244 u245 u246 u247 u248 u249 u250 u251 u252 u253 : Value, (Hid (Srt w A M (isortV M) w')) ∧ a' = ⟨List.toArray (s0 :: s1 :: s2 :: s3 :: s4 :: s5 :: s6 :: s7 :: s8 :: s9 :: s10 :: s11 :: s12 :: s13 :: s14 :: s15 :: s16 :: s17 :: s18 :: s19 :: s20 :: s21 :: s22 :: s23 :: s24 :: s25 :: s26 :: s27 :: s28 :: (.slice A n cap) :: s30 :: s31 :: s32 :: s33 :: s34 :: s35 :: s36 :: s37 :: s38 :: s39 :: s40 :: s41 :: s42 :: s43 :: s44 :: u45 :: u46 :: u47 :: s48 :: s49 :: s50 :: s51 :: s52 :: s53 :: s54 :: s55 :: s56 :: s57 :: s58 :: s59 :: s60 :: s61 :: s62 :: s63 :: s64 :: s65 :: s66 :: s67 :: s68 :: s69 :: s70 :: s71 :: s72 :: s73 :: s74 :: s75 :: s76 :: s77 :: s78 :: s79 :: s80 :: s81 :: s82 :: s83 :: s84 :: s85 :: s86 :: s87 :: s88 :: s89 :: s90 :: s91 :: s92 :: s93 :: s94 :: s95 :: s96 :: s97 :: s98 :: s99 :: s100 :: s101 :: s102 :: s103 :: s104 :: s105 :: s106 :: s107 :: s108 :: s109 :: s110 :: s111 :: s112 :: s113 :: s114 :: s115 :: s116 :: s117 :: s118 :: s119 :: s120 :: s121 :: s122 :: s123 :: s124 :: s125 :: s126 :: s127 :: s128 :: s129 :: s130 :: s131 :: s132 :: s133 :: s134 :: s135 :: s136 :: s137 :: s138 :: s139 :: s140 :: s141 :: s142 :: s143 :: s144 :: s145 :: s146 :: s147 :: s148 :: s149 :: s150 :: s151 :: s152 :: s153 :: s154 :: s155 :: s156 :: s157 :: s158 :: s159 :: s160 :: s161 :: s162 :: s163 :: s164 :: s165 :: s166 :: s167 :: s168 :: s169 :: s170 :: s171 :: s172 :: s173 :: s174 :: s175 :: s176 :: s177 :: s178 :: s179 :: s180 :: s181 :: s182 :: s183 :: s184 :: s185 :: s186 :: s187 :: s188 :: s189 :: s190 :: s191 :: s192 :: s193 :: s194 :: s195 :: s196 :: s197 :: s198 :: s199 :: s200 :: s201 :: s202 :: s203 :: s204 :: s205 :: s206 :: s207 :: s208 :: s209 :: s210 :: s211 :: u212 :: u213 :: u214 :: u215 :: u216 :: u217 :: u218 :: u219 :: u220 :: u221 :: u222 :: u223 :: u224 :: u225 :: u226 :: u227 :: u228 :: u229 :: u230 :: u231 :: u232 :: u233 :: u234 :: u235 :: u236 :: u237 :: u238 :: u239 :: u240 :: u241 :: u242 :: u243 :: u244 :: u245 :: u246 :: u247 :: u248 :: u249 :: u250 :: u251 :: u252 :: u253 :: s254 :: s255 :: s256 :: s257 :: s258 :: s259 :: s260 :: s261 :: s262 :: s263 :: s264 :: s265 :: s266 :: s267 :: s268 :: s269 :: s270 :: s271 :: s272 :: s273 :: s274 :: s275 :: s276 :: s277 :: s278 :: s279 :: s280 :: s281 :: s282 :: s283 :: s284 :: s285 :: s286 :: s287 :: s288 :: s289 :: s290 :: s291 :: s292 :: s293 :: s294 :: s295 :: s296 :: s297 :: s298 :: s299 :: s300 :: s301 :: s302 :: s303 :: s304 :: s305 :: s306 :: s307 :: s308 :: s309 :: s310 :: s311 :: s312 :: s313 :: s314 :: s315 :: s316 :: s317 :: s318 :: s319 :: s320 :: s321 :: s322 :: s323 :: s324 :: s325 :: s326 :: s327 :: s328 :: s329 :: s330 :: s331 :: s332 :: s333 :: s334 :: s335 :: s336 :: s337 :: s338 :: s339 :: s340 :: s341 :: s342 :: s343 :: s344 :: s345 :: s346 :: s347 :: s348 :: s349 :: s350 :: s351 :: s352 :: s353 :: s354 :: s355 :: s356 :: s357 :: s358 :: s359 :: s360 :: s361 :: s362 :: s363 :: s364 :: s365 :: s366 :: s367 :: s368 :: s369 :: s370 :: s371 :: s372 :: s373 :: s374 :: s375 :: s376 :: s377 :: s378 :: s379 :: s380 :: s381 :: s382 :: s383 :: s384 :: s385 :: s386 :: s387 :: s388 :: s389 :: s390 :: s391 :: s392 :: s393 :: s394 :: s395 :: s396 :: s397 :: s398 :: s399 :: s400 :: s401 :: s402 :: s403 :: s404 :: s405 :: s406 :: s407 :: s408 :: s409 :: s410 :: s411 :: s412 :: s413 :: s414 :: s415 :: s416 :: s417 :: s418 :: s419 :: s420 :: s421 :: s422 :: s423 :: s424 :: s425 :: s426 :: s427 :: s428 :: s429 :: s430 :: s431 :: s432 :: s433 :: s434 :: s435 :: s436 :: s437 :: s438 :: s439 :: s440 :: s441 :: s442 :: s443 :: s444 :: s445 :: s446 :: s447 :: s448 :: s449 :: s450 :: s451 :: s452 :: s453 :: s454 :: s455 :: s456 :: s457 :: s458 :: s459 :: s460 :: s461 :: s462 :: s463 :: s464 :: s465 :: s466 :: s467 :: s468 :: s469 :: s470 :: s471 :: s472 :: s473 :: s474 :: s475 :: s476 :: s477 :: s478 :: s479 :: s480 :: s481 :: s482 :: s483 :: s484 :: s485 :: s486 :: s487 :: s488 :: s489 :: s490 :: s491 :: s492 :: s493 :: s494 :: s495 :: s496 :: s497 :: s498 :: s499 :: s500 :: s501 :: s502 :: s503 :: s504 :: s505 :: s506 :: s507 :: s508 :: s509 :: s510 :: s511 :: s512 :: s513 :: s514 :: s515 :: s516 :: s517 :: s518 :: s519 :: s520 :: s521 :: s522 :: s523 :: s524 :: s525 :: s526 :: s527 :: s528 :: s529 :: s530 :: s531 :: s532 :: s533 :: s534 :: []), []⟩) → Q (.exit 6) a' w') :
    Code.wp Yba.prog ((Yba.f3.body.bind (blk 6)).getD .skip) Q ⟨List.toArray (s0 :: s1 :: s2 :: s3 :: s4 :: s5 :: s6 :: s7 :: s8 :: s9 :: s10 :: s11 :: s12 :: s13 :: s14 :: s15 :: s16 :: s17 :: s18 :: s19 :: s20 :: s21 :: s22 :: s23 :: s24 :: s25 :: s26 :: s27 :: s28 :: (.slice A n cap) :: s30 :: s31 :: s32 :: s33 :: s34 :: s35 :: s36 :: s37 :: s38 :: s39 :: s40 :: s41 :: s42 :: s43 :: s44 :: (.int .i64 1) :: s46 :: s47 :: s48 :: s49 :: s50 :: s51 :: s52 :: s53 :: s54 :: s55 :: s56 :: s57 :: s58 :: s59 :: s60 :: s61 :: s62 :: s63 :: s64 :: s65 :: s66 :: s67 :: s68 :: s69 :: s70 :: s71 :: s72 :: s73 :: s74 :: s75 :: s76 :: s77 :: s78 :: s79 :: s80 :: s81 :: s82 :: s83 :: s84 :: s85 :: s86 :: s87 :: s88 :: s89 :: s90 :: s91 :: s92 :: s93 :: s94 :: s95 :: s96 :: s97 :: s98 :: s99 :: s100 :: s101 :: s102 :: s103 :: s104 :: s105 :: s106 :: s107 :: s108 :: s109 :: s110 :: s111 :: s112 :: s113 :: s114 :: s115 :: s116 :: s117 :: s118 :: s119 :: s120 :: s121 :: s122 :: s123 :: s124 :: s125 :: s126 :: s127 :: s128 :: s129 :: s130 :: s131 :: s132 :: s133 :: s134 :: s135 :: s136 :: s137 :: s138 :: s139 :: s140 :: s141 :: s142 :: s143 :: s144 :: s145 :: s146 :: s147 :: s148 :: s149 :: s150 :: s151 :: s152 :: s153 :: s154 :: s155 :: s156 :: s157 :: s158 :: s159 :: s160 :: s161 :: s162 :: s163 :: s164 :: s165 :: s166 :: s167 :: s168 :: s169 :: s170 :: s171 :: s172 :: s173 :: s174 :: s175 :: s176 :: s177 :: s178 :: s179 :: s180 :: s181 :: s182 :: s183 :: s184 :: s185 :: s186 :: s187 :: s188 :: s189 :: s190 :: s191 :: s192 :: s193 :: s194 :: s195 :: s196 :: s197 :: s198 :: s199 :: s200 :: s201 :: s202 :: s203 :: s204 :: s205 :: s206 :: s207 :: s208 :: s209 :: s210 :: s211 :: s212 :: s213 :: s214 :: s215 :: s216 :: s217 :: s218 :: s219 :: s220 :: s221 :: s222 :: s223 :: s224 :: s225 :: s226 :: s227 :: s228 :: s229 :: s230 :: s231 :: s232 :: s233 :: s234 :: s235 :: s236 :: s237 :: s238 :: s239 :: s240 :: s241 :: s242 :: s243 :: s244 :: s245 :: s246 :: s247 :: s248 :: s249 :: s250 :: s251 :: s252 :: s253 :: s254 :: s255 :: s256 :: s257 :: s258 :: s259 :: s260 :: s261 :: s262 :: s263 :: s264 :: s265 :: s266 :: s267 :: s268 :: s269 :: s270 :: s271 :: s272 :: s273 :: s274 :: s275 :: s276 :: s277 :: s278 :: s279 :: s280 :: s281 :: s282 :: s283 :: s284 :: s285 :: s286 :: s287 :: s288 :: s289 :: s290 :: s291 :: s292 :: s293 :: s294 :: s295 :: s296 :: s297 :: s298 :: s299 :: s300 :: s301 :: s302 :: s303 :: s304 :: s305 :: s306 :: s307 :: s308 :: s309 :: s310 :: s311 :: s312 :: s313 :: s314 :: s315 :: s316 :: s317 :: s318 :: s319 :: s320 :: s321 :: s322 :: s323 :: s324 :: s325 :: s326 :: s327 :: s328 :: s329 :: s330 :: s331 :: s332 :: s333 :: s334 :: s335 :: s336 :: s337 :: s338 :: s339 :: s340 :: s341 :: s342 :: s343 :: s344 :: s345 :: s346 :: s347 :: s348 :: s349 :: s350 :: s351 :: s352 :: s353 :: s354 :: s355 :: s356 :: s357 :: s358 :: s359 :: s360 :: s361 :: s362 :: s363 :: s364 :: s365 :: s366 :: s367 :: s368 :: s369 :: s370 :: s371 :: s372 :: s373 :: s374 :: s375 :: s376 :: s377 :: s378 :: s379 :: s380 :: s381 :: s382 :: s383 :: s384 :: s385 :: s386 :: s387 :: s388 :: s389 :: s390 :: s391 :: s392 :: s393 :: s394 :: s395 :: s396 :: s397 :: s398 :: s399 :: s400 :: s401 :: s402 :: s403 :: s404 :: s405 :: s406 :: s407 :: s408 :: s409 :: s410 :: s411 :: s412 :: s413 :: s414 :: s415 :: s416 :: s417 :: s418 :: s419 :: s420 :: s421 :: s422 :: s423 :: s424 :: s425 :: s426 :: s427 :: s428 :: s429 :: s430 :: s431 :: s432 :: s433 :: s434 :: s435 :: s436 :: s437 :: s438 :: s439 :: s440 :: s441 :: s442 :: s443 :: s444 :: s445 :: s446 :: s447 :: s448 :: s449 :: s450 :: s451 :: s452 :: s453 :: s454 :: s455 :: s456 :: s457 :: s458 :: s459 :: s460 :: s461 :: s462 :: s463 :: s464 :: s465 :: s466 :: s467 :: s468 :: s469 :: s470 :: s471 :: s472 :: s473 :: s474 :: s475 :: s476 :: s477 :: s478 :: s479 :: s480 :: s481 :: s482 :: s483 :: s484 :: s485 :: s486 :: s487 :: s488 :: s489 :: s490 :: s491 :: s492 :: s493 :: s494 :: s495 :: s496 :: s497 :: s498 :: s499 :: s500 :: s501 :: s502 :: s503 :: s504 :: s505 :: s506 :: s507 :: s508 :: s509 :: s510 :: s511 :: s512 :: s513 :: s514 :: s515 :: s516 :: s517 :: s518 :: s519 :: s520 :: s521 :: s522 :: s523 :: s524 :: s525 :: s526 :: s527 :: s528 :: s529 :: s530 :: s531 :: s532 :: s533 :: s534 :: []), []⟩ w := by
  conv => arg 2; whnf
  go_loopw [45] (fun v45 wr => ∃ j : Nat, 1 ≤ j ∧ (j ≤ n ∨ j = 1) ∧ v45 = .int .i64 (j : Int) ∧ Hid (Srt w A M (isortV (M.take j) ++ M.drop j) wr)) (fun v45 _ => n - (intOf v45).toNat)
  case atStart =>
    refine ⟨1, Nat.le_refl _, Or.inr rfl, rfl, Kept.refl _ _, fun gb rest _ h => ?_⟩
    rw [isortV_one (by simp; omega), List.take_append_drop]
    exact h
  case round =>
    obtain ⟨j, hj1, hj2, rfl, H⟩ := hrel
    by_cases hlt : j < n
    · have hltI : (j : Int) < (n : Int) := by omega
      have hjM : j < M.length := by have := HN.out; omega
      obtain ⟨gb, rest, rfl, hM⟩ := hrow.out j hjM
      have hw := H.out.row gb rest rfl hM
      obtain ⟨x, Hx⟩ : ∃ x, Hid (M[j]? = some x) := ⟨M[j], List.getElem?_eq_getElem hjM⟩
      have hMx : M[j] = x := by have := Hx.out; rw [List.getElem?_eq_getElem hjM] at this; exact Option.some.inj this
      have hPl : (isortV (M.take j)).length = j := by rw [isortV_len]; simp; omega
      have HP : Hid ((isortV (M.take j)).length = j) := hPl
      have HN' : Hid (j + 1 + (M.drop (j + 1)).length = n) := by have := HN.out; show _ = _; simp; omega
      have Hnext : Hid (isortV (M.take (j + 1)) = insV x (isortV (M.take j))) := by
        show _ = _
        rw [List.take_succ_eq_append_getElem hjM, hMx, isortV_snoc]
      have Hup : Hid (Up (isortV (M.take j))) := isortV_up _
      have Hrow : Hid (MRow wr gb (mid (isortV (M.take j)) j x (M.drop (j + 1))) rest) := by
        show MRow _ _ _ _
        rw [List.drop_eq_getElem_cons hjM, hMx] at hw
        have := mid_full (isortV (M.take j)) x (M.drop (j + 1))
        rw [hPl] at this
        rw [this]
        exact hw
      have HM : Hid (MRow w gb M rest) := hM
      clear hw hM hMx hjM hrow hPl
      obtain ⟨P, HPe⟩ : ∃ P, Hid (isortV (M.take j) = P) := ⟨_, rfl⟩
      obtain ⟨T, HTe⟩ : ∃ T, Hid (M.drop (j + 1) = T) := ⟨_, rfl⟩
      rw [HPe.out] at HP Hnext Hup Hrow
      rw [HTe.out] at HN' Hrow
      obtain ⟨w1, rfl⟩ : ∃ w1, w1 = wr := ⟨_, rfl⟩
      go_wp2
      refine srtA gb n cap j P T x rest _ HP HN' hn5 Hrow (fun a' w' hx => ?_)
      obtain ⟨u46, hx⟩ := hx; obtain ⟨u47, hx⟩ := hx; obtain ⟨u219, hx⟩ := hx; obtain ⟨u220, hx⟩ := hx; obtain ⟨u221, hx⟩ := hx; obtain ⟨u222, hx⟩ := hx; obtain ⟨u223, hx⟩ := hx; obtain ⟨u224, hx⟩ := hx; obtain ⟨u225, hx⟩ := hx; obtain ⟨u226, hx⟩ := hx; obtain ⟨u227, hx⟩ := hx; obtain ⟨u228, hx⟩ := hx; obtain ⟨u229, hx⟩ := hx; obtain ⟨u230, hx⟩ := hx; obtain ⟨u231, hx⟩ := hx; obtain ⟨u232, hx⟩ := hx; obtain ⟨u233, hx⟩ := hx; obtain ⟨u234, hx⟩ := hx; obtain ⟨u235, hx⟩ := hx; obtain ⟨u236, hx⟩ := hx; obtain ⟨u237, hx⟩ := hx; obtain ⟨u238, hx⟩ := hx; obtain ⟨u239, hx⟩ := hx; obtain ⟨u240, hx⟩ := hx; obtain ⟨u241, hx⟩ := hx; obtain ⟨u242, hx⟩ := hx; obtain ⟨u243, hx⟩ := hx; obtain ⟨u244, hx⟩ := hx; obtain ⟨u245, hx⟩ := hx; obtain ⟨u246, hx⟩ := hx; obtain ⟨u247, hx⟩ := hx; obtain ⟨u248, hx⟩ := hx; obtain ⟨u249, hx⟩ := hx; obtain ⟨u250, hx⟩ := hx; obtain ⟨u251, hx⟩ := hx; obtain ⟨u252, hx⟩ := hx; obtain ⟨u253, hx⟩ := hx
      obtain ⟨hx, rfl⟩ := hx
      have Hr : Hid (Srt w (some ⟨gb, 0, none⟩) M (isortV (M.take (j + 1)) ++ M.drop (j + 1)) w') := by
        obtain ⟨hk, k, h1, h2, h3, h4⟩ := hx.out
        refine ⟨H.out.kept.trans hk (fun b hb e => by simp [Value.ownBlock, e]), fun gb' rest' e hM' => ?_⟩
        simp only [Option.some.injEq, Addr.mk.injEq, and_true] at e
        subst e
        have : rest' = rest := by
          have e1 := HM.out.symm.trans hM'
          simp only [Option.some.injEq, Obj.cells.injEq, and_true] at e1
          have e2 := congrArg Array.toList e1
          simpa using e2.symm
        subst this
        rw [Hnext.out, HTe.out, ← mid_done Hup.out h1 h3 h4]
        exact h2
      clear hx
      go_wp2
      go_roundw
      case rel => exact ⟨j + 1, by omega, Or.inl (by omega), by go_num, Hr.out⟩
      case measure => simp [intOf]; omega
    · have hltI : ¬ (j : Int) < (n : Int) := by omega
      have Hr : Hid (Srt w A M (isortV M) wr) := by
        refine ⟨H.out.kept, fun gb rest e hM => ?_⟩
        have h1 := H.out.row gb rest e hM
        have h2 : M.length ≤ j := by have := HN.out; omega
        rw [List.take_of_length_le h2, List.drop_of_length_le h2, List.append_nil] at h1
        exact h1
      go_wp2
end Go.Proofs.Ybulkejoc

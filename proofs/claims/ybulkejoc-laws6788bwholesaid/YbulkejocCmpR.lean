/- The law's end: all its comparisons. -/
import Derived.Test.YbulkejocCmpP
import Derived.Test.YbulkejocCmpM
import Derived.Test.YbulkejocCmpA
namespace Go.Proofs.Ybulkejoc
open Go.ChangeShapes Go.WideShapes Go.ChangeAt Go.RowKit
set_option maxRecDepth 1000000
variable {s0 s1 s2 s3 s4 s5 s6 s7 s8 s9 s10 s11 s12 s13 s14 s15 s16 s17 s18 s19 s20 s21 s22 s23 s24 s25 s26 s27 s28 s29 s30 s31 s32 s33 s34 s35 s36 s37 s38 s39 s40 s41 s42 s43 s44 s45 s46 s47 s48 s49 s50 s51 s52 s53 s54 s55 s56 s57 s58 s59 s60 s61 s62 s63 s64 s65 s66 s67 s68 s69 s70 s71 s72 s73 s74 s75 s76 s77 s78 s79 s80 s81 s82 s83 s84 s85 s86 s87 s88 s89 s90 s91 s92 s93 s94 s95 s96 s97 s98 s99 s100 s101 s102 s103 s104 s105 s106 s107 s108 s109 s110 s111 s112 s113 s114 s115 s116 s117 s118 s119 s120 s121 s122 s123 s124 s125 s126 s127 s128 s129 s130 s131 s132 s133 s134 s135 s136 s137 s138 s139 s140 s141 s142 s143 s144 s145 s146 s147 s148 s149 s150 s151 s152 s153 s154 s155 s156 s157 s158 s159 s160 s161 s162 s163 s164 s165 s166 s167 s168 s169 s170 s171 s172 s173 s174 s175 s176 s177 s178 s179 s180 s181 s182 s183 s184 s185 s186 s187 s188 s189 s190 s191 s192 s193 s194 s195 s196 s197 s198 s199 s200 s201 s202 s203 s204 s205 s206 s207 s208 s209 s210 s211 s212 s213 s214 s215 s216 s217 s218 s219 s220 s221 s222 s223 s224 s225 s226 s227 s228 s229 s230 s231 s232 s233 s234 s235 s236 s237 s238 s239 s240 s241 s242 s243 s244 s245 s246 s247 s248 s249 s250 s251 s252 s253 s254 s255 s256 s257 s258 s259 s260 s261 s262 s263 s264 s265 s266 s267 s268 s269 s270 s271 s272 s273 s274 s275 s276 s277 s278 s279 s280 s281 s282 s283 s284 s285 s286 s287 s288 s289 s290 s291 s292 s293 s294 s295 s296 s297 s298 s299 s300 s301 s302 s303 s304 s305 s306 s307 s308 s309 s310 s311 s312 s313 s314 s315 s316 s317 s318 s319 s320 s321 s322 s323 s324 s325 s326 s327 s328 s329 s330 s331 s332 s333 s334 s335 s336 s337 s338 s339 s340 s341 s342 s343 s344 s345 s346 s347 s348 s349 s350 s351 s352 s353 s354 s355 s356 s357 s358 s359 s360 s361 s362 s363 s364 s365 s366 s367 s368 s369 s370 s371 s372 s373 s374 s375 s376 s377 s378 s379 s380 s381 s382 s383 s384 s385 s386 s387 s388 s389 s390 s391 s392 s393 s394 s395 s396 s397 s398 s399 s400 s401 s402 s403 s404 s405 s406 s407 s408 s409 s410 s411 s412 s413 s414 s415 s416 s417 s418 s419 s420 s421 s422 s423 s424 s425 s426 s427 s428 s429 s430 s431 s432 s433 s434 s435 s436 s437 s438 s439 s440 s441 s442 s443 s444 s445 s446 s447 s448 s449 s450 s451 s452 s453 s454 s455 s456 s457 s458 s459 s460 s461 s462 s463 s464 s465 s466 s467 s468 s469 s470 s471 s472 s473 s474 s475 s476 s477 s478 s479 s480 s481 s482 s483 s484 s485 s486 s487 s488 s489 s490 s491 s492 s493 s494 s495 s496 s497 s498 s499 s500 s501 s502 s503 s504 s505 s506 s507 s508 s509 s510 s511 s512 s513 s514 s515 s516 s517 s518 s519 s520 s521 s522 s523 s524 s525 s526 s527 s528 s529 s530 s531 s532 s533 s534 : Value}

theorem eqIn68 (d : Nat) (A : Option Addr) (n c : Nat) (W : World) : (Op.equalIn (d + 1) 68 (.slice A n c) (.slice none 0 0)).run Yba.prog W = .ok A.isNone W := by
  cases A <;> simp [Op.equalIn, run_underlying Yba.underlying68]
theorem eq68 (A : Option Addr) (n c : Nat) (W : World) : (binOp .eql 68 (.slice A n c) (.slice none 0 0)).run Yba.prog W = .ok (.bool A.isNone) W := by
  simp only [binOp]
  simp [Op.equal, Op.maxDepth, eqIn68 9999]
theorem neq68 (W : World) : (binOp .neq 68 (.slice none 0 0) (.slice none 0 0)).run Yba.prog W = .ok (.bool false) W := by
  simp only [binOp]
  simp [Op.equal, Op.maxDepth, eqIn68 9999]
theorem eqIn57 (d : Nat) (P : Option Addr) (W : World) : (Op.equalIn (d + 1) 57 (.pointer P) (.pointer P)).run Yba.prog W = .ok true W := by
  cases P <;> simp [Op.equalIn, run_underlying Yba.underlying57, sizeOf, sameAddr]
theorem neq57 (P : Option Addr) (W : World) : (binOp .neq 57 (.pointer P) (.pointer P)).run Yba.prog W = .ok (.bool false) W := by
  simp only [binOp]
  simp [Op.equal, Op.maxDepth, eqIn57 9999]

theorem Fin.below {W : World} {me : Mb} {sb lg mp nb : Nat} {L : List (Nat × Mb)} {s : Ls} {mem : Nat → Mb} {va vr got v29 v37 v38 v39 : Value} {now : Int} {w w' : World} (h : Fin W me sb lg mp nb L s mem va vr got v29 v37 v38 v39 now w) (hB : Below w.heap.size w w') : Fin W me sb lg mp nb L s mem va vr got v29 v37 v38 v39 now w' := by
  have k0 : Kept (fun _ => False) w w' := Kept.of_below hB (Nat.le_refl _)
  have c : ∀ (b o : Nat) (v : Value), w.cell? ⟨b, o, none⟩ = some v → w'.cell? ⟨b, o, none⟩ = some v := fun b o v hv => (hB.cell (p := ⟨b, o, none⟩) (World.block_lt_of_cell? w _ hv)).trans hv
  have row : ∀ {B e z n : Nat} {v : Value} {xs : List Value}, w.ownsRow B e z v n xs → w'.ownsRow B e z v n xs := fun ho => own_kept ho k0 (fun _ _ e => e)
  obtain ⟨lv, ms, l1, l2, l3⟩ := h.log
  obtain ⟨A, cap, a1, a2⟩ := h.n24
  obtain ⟨gvs, g1, g2, g3, g4⟩ := h.got
  obtain ⟨wvs, k1, k2, k3, k4⟩ := h.want
  exact ⟨h.bel.trans (hB.mono h.bel.size), (hB.block sb (lt_of_heap h.self)).trans h.self, ⟨lv, ms, c _ _ _ l1, row l2, row l3⟩, c _ _ _ h.n11, c _ _ _ h.n12, c _ _ _ h.n13, c _ _ _ h.n14, c _ _ _ h.n15, c _ _ _ h.n16, c _ _ _ h.n19, ⟨A, cap, c _ _ _ a1, fun i hi => let ⟨g, x, y⟩ := a2 i hi; ⟨g, x, c _ _ _ y⟩⟩, c _ _ _ h.n27, c _ _ _ h.n28, fun q hq => let r := h.rum q hq; ⟨Nat.lt_of_lt_of_le r.lt hB.size, c _ _ _ r.a, c _ _ _ r.t, c _ _ _ r.s', c _ _ _ r.i, c _ _ _ r.sent, (hB.frozen (p := ⟨q, 4, none⟩) r.lt).trans r.fz, r.ok, r.lo, r.hi⟩, (hB.block mp (lt_of_heap h.map)).trans h.map, fun p hp => (h.ent p hp).kept k0 (fun e => e), h.keys, row h.addr, row h.recs, row h.model, ⟨gvs, g1, row g2, fun i hi hv => row (g3 i hi hv), g4⟩, ⟨wvs, k1, row k2, fun i hi hv => row (k3 i hi hv), k4⟩, h.probe⟩

set_option maxHeartbeats 4000000 in
theorem cmpR (W : World) (me : Mb) (sb lg mp nb : Nat) (L : List (Nat × Mb)) (s : Ls) (mem : Nat → Mb) (A RA : Option Addr) (nL cap rcap : Nat) (got v29 v37 v38 v39 : Value) (now : Int) (w : World) (HL : Hid (L.length = nL)) (hnL : nL ≤ 512) (hs : Hid (s.d.length ≤ 512 ∧ s.out.length ≤ 512))
    (HF : Hid (Fin W me sb lg mp nb L s mem (.slice A nL cap) (.slice RA nL rcap) got v29 v37 v38 v39 now w)) {Q : Exit → Act → World → Prop}
    (hret : ∀ a' w', (∃ u16 u53 u54 u55 u56 u57 u58 u59 u60 u306 u307 u308 u309 u310 u311 u312 u313 u314 u315 u316 u317 u318 u319 u320 u321 u322 u323 u324 u325 u326 u327 u328 u329 u330 u331 u332 u333 u334 u335 u336 u337 u338 u339 u340 u341 u342 u343 u344 u345 u346 u347 u348 u349 u350 u351 u352 u353 u354 u355 u356 u357 u358 u359 u360 u361 u362 u363 u364 u365 u366 u367 u368 u369 u370 u371 u372 u373 u374 u375 u376 u377 u378 u379 u380 u381 u382 u383 u384 u385 u386 u387 u388 u389 u390 u391 u392 u393 u394 u395 u396 u397 u398 u399 u400 u401 u402 u403 u404 u405 u406 u407 u408 u409 u410 u411 u412 u413 u414 u415 u416 u417 u418 u419 u420 u421 u422 u423 u424 u425 u426 u427 u428 u429 u430 u431 u432 u433 u434 u435 u436 u437 u438 u439 u440 u441 u442 u443 u444 u445 u446 u447 u448 u449 u450 u451 u452 u453 u454 u455 u456 u457 u458 u459 u460 u461 u462 u463 u464 u465 u466 u467 u468 u469 u470 u471 u472 u473 u474 u475 u476 u477 u478 u479 u480 u481 u482 u483 u484 u485 u486 u487 u488 u489 u490 u491 u492 u493 u494 u495 u496 u497 u498 u499 u500 u501 u502 u503 u504 u505 u506 u507 u508 u509 u510 u511 u512 u513 u514 u515 u516 u517 u518 u519 u520 u521 u522 u523 u524 u525 u526 u527 u528 u529 u530 u531 u532 u533 u534 : Value, (Hid (u16 = .bool true ∧ Below W.heap.size W w')) ∧ a' = ⟨List.toArray (s0 :: s1 :: s2 :: s3 :: s4 :: s5 :: s6 :: (.int .i64 now) :: s8 :: s9 :: s10 :: s11 :: s12 :: s13 :: s14 :: s15 :: u16 :: (.pointer (some ⟨sb, 0, none⟩)) :: (.pointer (some ⟨lg, 0, none⟩)) :: s19 :: s20 :: (.slice A nL cap) :: (.slice RA nL rcap) :: s23 :: s24 :: s25 :: s26 :: s27 :: s28 :: v29 :: s30 :: s31 :: s32 :: s33 :: s34 :: (.pointer (some ⟨nb, 0, none⟩)) :: got :: v37 :: v38 :: v39 :: s40 :: s41 :: s42 :: s43 :: s44 :: s45 :: s46 :: s47 :: s48 :: s49 :: s50 :: s51 :: s52 :: u53 :: u54 :: u55 :: u56 :: u57 :: u58 :: u59 :: u60 :: s61 :: s62 :: s63 :: s64 :: s65 :: s66 :: s67 :: s68 :: s69 :: s70 :: s71 :: s72 :: s73 :: s74 :: s75 :: s76 :: s77 :: s78 :: s79 :: s80 :: s81 :: s82 :: s83 :: s84 :: s85 :: s86 :: s87 :: s88 :: s89 :: s90 :: s91 :: s92 :: s93 :: s94 :: s95 :: s96 :: s97 :: s98 :: s99 :: s100 :: s101 :: s102 :: s103 :: s104 :: s105 :: s106 :: s107 :: s108 :: s109 :: s110 :: s111 :: s112 :: s113 :: s114 :: s115 :: s116 :: s117 :: s118 :: s119 :: s120 :: s121 :: s122 :: s123 :: s124 :: s125 :: s126 :: s127 :: s128 :: s129 :: s130 :: s131 :: s132 :: s133 :: s134 :: s135 :: s136 :: s137 :: s138 :: s139 :: s140 :: s141 :: s142 :: s143 :: s144 :: s145 :: s146 :: s147 :: s148 :: s149 :: s150 :: s151 :: s152 :: s153 :: s154 :: s155 :: s156 :: s157 :: s158 :: s159 :: s160 :: s161 :: s162 :: s163 :: s164 :: s165 :: s166 :: s167 :: s168 :: s169 :: s170 :: s171 :: s172 :: s173 :: s174 :: s175 :: s176 :: s177 :: s178 :: s179 :: s180 :: s181 :: s182 :: s183 :: s184 :: s185 :: s186 :: s187 :: s188 :: s189 :: s190 :: s191 :: s192 :: s193 :: s194 :: s195 :: s196 :: s197 :: s198 :: s199 :: s200 :: s201 :: s202 :: s203 :: s204 :: s205 :: s206 :: s207 :: s208 :: s209 :: s210 :: s211 :: s212 :: s213 :: s214 :: s215 :: s216 :: s217 :: s218 :: s219 :: s220 :: s221 :: s222 :: s223 :: s224 :: s225 :: s226 :: s227 :: s228 :: s229 :: s230 :: s231 :: s232 :: s233 :: s234 :: s235 :: s236 :: s237 :: s238 :: s239 :: s240 :: s241 :: s242 :: s243 :: s244 :: s245 :: s246 :: s247 :: s248 :: s249 :: s250 :: s251 :: s252 :: s253 :: s254 :: s255 :: s256 :: s257 :: s258 :: s259 :: s260 :: s261 :: s262 :: s263 :: s264 :: s265 :: s266 :: s267 :: s268 :: s269 :: s270 :: s271 :: s272 :: s273 :: s274 :: s275 :: s276 :: s277 :: s278 :: s279 :: s280 :: s281 :: s282 :: s283 :: s284 :: s285 :: s286 :: s287 :: s288 :: s289 :: s290 :: s291 :: s292 :: s293 :: s294 :: s295 :: s296 :: s297 :: s298 :: s299 :: s300 :: s301 :: s302 :: s303 :: s304 :: s305 :: u306 :: u307 :: u308 :: u309 :: u310 :: u311 :: u312 :: u313 :: u314 :: u315 :: u316 :: u317 :: u318 :: u319 :: u320 :: u321 :: u322 :: u323 :: u324 :: u325 :: u326 :: u327 :: u328 :: u329 :: u330 :: u331 :: u332 :: u333 :: u334 :: u335 :: u336 :: u337 :: u338 :: u339 :: u340 :: u341 :: u342 :: u343 :: u344 :: u345 :: u346 :: u347 :: u348 :: u349 :: u350 :: u351 :: u352 :: u353 :: u354 :: u355 :: u356 :: u357 :: u358 :: u359 :: u360 :: u361 :: u362 :: u363 :: u364 :: u365 :: u366 :: u367 :: u368 :: u369 :: u370 :: u371 :: u372 :: u373 :: u374 :: u375 :: u376 :: u377 :: u378 :: u379 :: u380 :: u381 :: u382 :: u383 :: u384 :: u385 :: u386 :: u387 :: u388 :: u389 :: u390 :: u391 :: u392 :: u393 :: u394 :: u395 :: u396 :: u397 :: u398 :: u399 :: u400 :: u401 :: u402 :: u403 :: u404 :: u405 :: u406 :: u407 :: u408 :: u409 :: u410 :: u411 :: u412 :: u413 :: u414 :: u415 :: u416 :: u417 :: u418 :: u419 :: u420 :: u421 :: u422 :: u423 :: u424 :: u425 :: u426 :: u427 :: u428 :: u429 :: u430 :: u431 :: u432 :: u433 :: u434 :: u435 :: u436 :: u437 :: u438 :: u439 :: u440 :: u441 :: u442 :: u443 :: u444 :: u445 :: u446 :: u447 :: u448 :: u449 :: u450 :: u451 :: u452 :: u453 :: u454 :: u455 :: u456 :: u457 :: u458 :: u459 :: u460 :: u461 :: u462 :: u463 :: u464 :: u465 :: u466 :: u467 :: u468 :: u469 :: u470 :: u471 :: u472 :: u473 :: u474 :: u475 :: u476 :: u477 :: u478 :: u479 :: u480 :: u481 :: u482 :: u483 :: u484 :: u485 :: u486 :: u487 :: u488 :: u489 :: u490 :: u491 :: u492 :: u493 :: u494 :: u495 :: u496 :: u497 :: u498 :: u499 :: u500 :: u501 :: u502 :: u503 :: u504 :: u505 :: u506 :: u507 :: u508 :: u509 :: u510 :: u511 :: u512 :: u513 :: u514 :: u515 :: u516 :: u517 :: u518 :: u519 :: u520 :: u521 :: u522 :: u523 :: u524 :: u525 :: u526 :: u527 :: u528 :: u529 :: u530 :: u531 :: u532 :: u533 :: u534 :: []), []⟩) → Q .ret a' w') :
    Code.wp Yba.prog ((Yba.f3.body.bind (fromR 74)).getD .skip) Q ⟨List.toArray (s0 :: s1 :: s2 :: s3 :: s4 :: s5 :: s6 :: (.int .i64 now) :: s8 :: s9 :: s10 :: s11 :: s12 :: s13 :: s14 :: s15 :: s16 :: (.pointer (some ⟨sb, 0, none⟩)) :: (.pointer (some ⟨lg, 0, none⟩)) :: s19 :: s20 :: (.slice A nL cap) :: (.slice RA nL rcap) :: s23 :: s24 :: s25 :: s26 :: s27 :: s28 :: v29 :: s30 :: s31 :: s32 :: s33 :: s34 :: (.pointer (some ⟨nb, 0, none⟩)) :: got :: v37 :: v38 :: v39 :: s40 :: s41 :: s42 :: s43 :: s44 :: s45 :: s46 :: s47 :: s48 :: s49 :: s50 :: s51 :: s52 :: s53 :: s54 :: s55 :: s56 :: s57 :: s58 :: s59 :: s60 :: s61 :: s62 :: s63 :: s64 :: s65 :: s66 :: s67 :: s68 :: s69 :: s70 :: s71 :: s72 :: s73 :: s74 :: s75 :: s76 :: s77 :: s78 :: s79 :: s80 :: s81 :: s82 :: s83 :: s84 :: s85 :: s86 :: s87 :: s88 :: s89 :: s90 :: s91 :: s92 :: s93 :: s94 :: s95 :: s96 :: s97 :: s98 :: s99 :: s100 :: s101 :: s102 :: s103 :: s104 :: s105 :: s106 :: s107 :: s108 :: s109 :: s110 :: s111 :: s112 :: s113 :: s114 :: s115 :: s116 :: s117 :: s118 :: s119 :: s120 :: s121 :: s122 :: s123 :: s124 :: s125 :: s126 :: s127 :: s128 :: s129 :: s130 :: s131 :: s132 :: s133 :: s134 :: s135 :: s136 :: s137 :: s138 :: s139 :: s140 :: s141 :: s142 :: s143 :: s144 :: s145 :: s146 :: s147 :: s148 :: s149 :: s150 :: s151 :: s152 :: s153 :: s154 :: s155 :: s156 :: s157 :: s158 :: s159 :: s160 :: s161 :: s162 :: s163 :: s164 :: s165 :: s166 :: s167 :: s168 :: s169 :: s170 :: s171 :: s172 :: s173 :: s174 :: s175 :: s176 :: s177 :: s178 :: s179 :: s180 :: s181 :: s182 :: s183 :: s184 :: s185 :: s186 :: s187 :: s188 :: s189 :: s190 :: s191 :: s192 :: s193 :: s194 :: s195 :: s196 :: s197 :: s198 :: s199 :: s200 :: s201 :: s202 :: s203 :: s204 :: s205 :: s206 :: s207 :: s208 :: s209 :: s210 :: s211 :: s212 :: s213 :: s214 :: s215 :: s216 :: s217 :: s218 :: s219 :: s220 :: s221 :: s222 :: s223 :: s224 :: s225 :: s226 :: s227 :: s228 :: s229 :: s230 :: s231 :: s232 :: s233 :: s234 :: s235 :: s236 :: s237 :: s238 :: s239 :: s240 :: s241 :: s242 :: s243 :: s244 :: s245 :: s246 :: s247 :: s248 :: s249 :: s250 :: s251 :: s252 :: s253 :: s254 :: s255 :: s256 :: s257 :: s258 :: s259 :: s260 :: s261 :: s262 :: s263 :: s264 :: s265 :: s266 :: s267 :: s268 :: s269 :: s270 :: s271 :: s272 :: s273 :: s274 :: s275 :: s276 :: s277 :: s278 :: s279 :: s280 :: s281 :: s282 :: s283 :: s284 :: s285 :: s286 :: s287 :: s288 :: s289 :: s290 :: s291 :: s292 :: s293 :: s294 :: s295 :: s296 :: s297 :: s298 :: s299 :: s300 :: s301 :: s302 :: s303 :: s304 :: s305 :: s306 :: s307 :: s308 :: s309 :: s310 :: s311 :: s312 :: s313 :: s314 :: s315 :: s316 :: s317 :: s318 :: s319 :: s320 :: s321 :: s322 :: s323 :: s324 :: s325 :: s326 :: s327 :: s328 :: s329 :: s330 :: s331 :: s332 :: s333 :: s334 :: s335 :: s336 :: s337 :: s338 :: s339 :: s340 :: s341 :: s342 :: s343 :: s344 :: s345 :: s346 :: s347 :: s348 :: s349 :: s350 :: s351 :: s352 :: s353 :: s354 :: s355 :: s356 :: s357 :: s358 :: s359 :: s360 :: s361 :: s362 :: s363 :: s364 :: s365 :: s366 :: s367 :: s368 :: s369 :: s370 :: s371 :: s372 :: s373 :: s374 :: s375 :: s376 :: s377 :: s378 :: s379 :: s380 :: s381 :: s382 :: s383 :: s384 :: s385 :: s386 :: s387 :: s388 :: s389 :: s390 :: s391 :: s392 :: s393 :: s394 :: s395 :: s396 :: s397 :: s398 :: s399 :: s400 :: s401 :: s402 :: s403 :: s404 :: s405 :: s406 :: s407 :: s408 :: s409 :: s410 :: s411 :: s412 :: s413 :: s414 :: s415 :: s416 :: s417 :: s418 :: s419 :: s420 :: s421 :: s422 :: s423 :: s424 :: s425 :: s426 :: s427 :: s428 :: s429 :: s430 :: s431 :: s432 :: s433 :: s434 :: s435 :: s436 :: s437 :: s438 :: s439 :: s440 :: s441 :: s442 :: s443 :: s444 :: s445 :: s446 :: s447 :: s448 :: s449 :: s450 :: s451 :: s452 :: s453 :: s454 :: s455 :: s456 :: s457 :: s458 :: s459 :: s460 :: s461 :: s462 :: s463 :: s464 :: s465 :: s466 :: s467 :: s468 :: s469 :: s470 :: s471 :: s472 :: s473 :: s474 :: s475 :: s476 :: s477 :: s478 :: s479 :: s480 :: s481 :: s482 :: s483 :: s484 :: s485 :: s486 :: s487 :: s488 :: s489 :: s490 :: s491 :: s492 :: s493 :: s494 :: s495 :: s496 :: s497 :: s498 :: s499 :: s500 :: s501 :: s502 :: s503 :: s504 :: s505 :: s506 :: s507 :: s508 :: s509 :: s510 :: s511 :: s512 :: s513 :: s514 :: s515 :: s516 :: s517 :: s518 :: s519 :: s520 :: s521 :: s522 :: s523 :: s524 :: s525 :: s526 :: s527 :: s528 :: s529 :: s530 :: s531 :: s532 :: s533 :: s534 :: []), []⟩ w := by
  conv => arg 2; whnf
  obtain ⟨gvs, g1, g2, g3, g4⟩ := HF.out.got
  obtain ⟨wvs, k1, k2, k3, k4⟩ := HF.out.want
  obtain ⟨no, Hno⟩ : ∃ no, Hid (s.out.length = no) := ⟨_, rfl⟩
  have hno : no ≤ 512 := by have := hs.out.2; have := Hno.out; omega
  have HG : Hid (w.ownsRow 0 67 9 got no (ocells (gone me) s.out gvs) ∧ ∀ i (hi : i < s.out.length) (hv : i < gvs.length), w.ownsRow 0 29 4 gvs[i] s.out[i].2.length (mcells s.out[i].2)) := by
    rw [Hno.out] at g2
    exact ⟨g2, g3⟩
  have HW : Hid (w.ownsRow 0 67 9 v37 no (ocells (gone me) s.out wvs) ∧ ∀ i (hi : i < s.out.length) (hv : i < wvs.length), w.ownsRow 0 29 4 wvs[i] s.out[i].2.length (mcells s.out[i].2)) := by
    rw [Hno.out] at k2
    exact ⟨k2, k3⟩
  have HV : Hid (gvs.length = s.out.length ∧ wvs.length = s.out.length) := ⟨g1, k1⟩
  obtain ⟨GA, gcap, WA, wcap, rfl, rfl, Hnil⟩ : ∃ GA gcap WA wcap, got = .slice GA no gcap ∧ v37 = .slice WA no wcap ∧ Hid (GA.isNone = WA.isNone) := by
    by_cases h0 : no = 0
    · have h1 : s.out = [] := List.eq_nil_of_length_eq_zero (by have := Hno.out; omega)
      subst h0
      exact ⟨none, 0, none, 0, g4 h1, k4 h1, rfl⟩
    · rcases HG.out.1.2 with ⟨_, e⟩ | ⟨g, c, _, e, _⟩
      · omega
      · rcases HW.out.1.2 with ⟨_, e'⟩ | ⟨g', c', _, e', _⟩
        · omega
        · exact ⟨_, c, _, c', e, e', rfl⟩
  clear g1 g2 g3 g4 k1 k2 k3 k4
  obtain ⟨bN, h1, h2⟩ : ∃ bN, GA.isNone = bN ∧ WA.isNone = bN := ⟨_, rfl, Hnil.out.symm⟩
  have hq1 := eq68 GA no gcap
  have hq2 := eq68 WA no wcap
  rw [h1] at hq1
  rw [h2] at hq2
  have hqb : ∀ W, (binOp .neq 4 (.bool bN) (.bool bN)).run Yba.prog W = .ok (.bool false) W := by
    intro W
    cases bN <;> rfl
  clear h1 h2
  go_upto_region 74 with fail
  go_cut [317] from 306 to 317 (fun v317 w' => v317 = .bool false ∧ w' = w)
  case first =>
    go_wp2
    go_meet
    exact ⟨rfl, rfl⟩
  case rest =>
    obtain ⟨rfl, rfl⟩ := hcut
    clear hq1 hq2 hqb
    go_wp2
    refine onExit_mono (cmpP (gone me) s.out no GA WA gcap wcap gvs wvs _ Hno (by omega) HV HG HW) (fun a' w1 hx => ?_)
    obtain ⟨u16, hx⟩ := hx; obtain ⟨u53, hx⟩ := hx; obtain ⟨u54, hx⟩ := hx; obtain ⟨u55, hx⟩ := hx; obtain ⟨u320, hx⟩ := hx; obtain ⟨u321, hx⟩ := hx; obtain ⟨u322, hx⟩ := hx; obtain ⟨u323, hx⟩ := hx; obtain ⟨u324, hx⟩ := hx; obtain ⟨u325, hx⟩ := hx; obtain ⟨u326, hx⟩ := hx; obtain ⟨u327, hx⟩ := hx; obtain ⟨u328, hx⟩ := hx; obtain ⟨u329, hx⟩ := hx; obtain ⟨u330, hx⟩ := hx; obtain ⟨u331, hx⟩ := hx; obtain ⟨u332, hx⟩ := hx; obtain ⟨u333, hx⟩ := hx; obtain ⟨u334, hx⟩ := hx; obtain ⟨u335, hx⟩ := hx; obtain ⟨u336, hx⟩ := hx; obtain ⟨u337, hx⟩ := hx; obtain ⟨u338, hx⟩ := hx; obtain ⟨u339, hx⟩ := hx; obtain ⟨u340, hx⟩ := hx; obtain ⟨u341, hx⟩ := hx; obtain ⟨u342, hx⟩ := hx; obtain ⟨u343, hx⟩ := hx; obtain ⟨u344, hx⟩ := hx; obtain ⟨u345, hx⟩ := hx; obtain ⟨u346, hx⟩ := hx; obtain ⟨u347, hx⟩ := hx; obtain ⟨u348, hx⟩ := hx; obtain ⟨u349, hx⟩ := hx; obtain ⟨u350, hx⟩ := hx; obtain ⟨u351, hx⟩ := hx; obtain ⟨u352, hx⟩ := hx; obtain ⟨u353, hx⟩ := hx; obtain ⟨u354, hx⟩ := hx; obtain ⟨u355, hx⟩ := hx; obtain ⟨u356, hx⟩ := hx; obtain ⟨u357, hx⟩ := hx; obtain ⟨u358, hx⟩ := hx; obtain ⟨u359, hx⟩ := hx; obtain ⟨u360, hx⟩ := hx; obtain ⟨u361, hx⟩ := hx; obtain ⟨u362, hx⟩ := hx; obtain ⟨u363, hx⟩ := hx; obtain ⟨u364, hx⟩ := hx; obtain ⟨u365, hx⟩ := hx; obtain ⟨u366, hx⟩ := hx; obtain ⟨u367, hx⟩ := hx; obtain ⟨u368, hx⟩ := hx; obtain ⟨u369, hx⟩ := hx; obtain ⟨u370, hx⟩ := hx; obtain ⟨u371, hx⟩ := hx; obtain ⟨u372, hx⟩ := hx; obtain ⟨u373, hx⟩ := hx; obtain ⟨u374, hx⟩ := hx; obtain ⟨u375, hx⟩ := hx; obtain ⟨u376, hx⟩ := hx; obtain ⟨u377, hx⟩ := hx; obtain ⟨u378, hx⟩ := hx; obtain ⟨u379, hx⟩ := hx; obtain ⟨u380, hx⟩ := hx; obtain ⟨u381, hx⟩ := hx; obtain ⟨u382, hx⟩ := hx
    obtain ⟨hx, rfl⟩ := hx
    have F1 : Hid (Fin W me sb lg mp nb L s mem (.slice A nL cap) (.slice RA nL rcap) (.slice GA no gcap) v29 (.slice WA no wcap) v38 v39 now w1) := HF.out.below hx.out
    clear hx HG HW HV
    obtain ⟨P, rfl⟩ := F1.out.probe
    have hq1 := neq68
    have hq2 := neq57 P
    have n11 := F1.out.n11
    have n12 := F1.out.n12
    have n13 := F1.out.n13
    have n14 := F1.out.n14
    have n19 := F1.out.n19
    have n27 := F1.out.n27
    have n28 := F1.out.n28
    have b0 := cell_of_block F1.out.self 0
    have b1 := cell_of_block F1.out.self 1
    have b2 := cell_of_block F1.out.self 2
    have b3 := cell_of_block F1.out.self 3
    simp only [List.getElem?_toArray, List.getElem?_cons_zero, List.getElem?_cons_succ] at b0 b1 b2 b3
    go_wp2
    go_quiet (fail)
    have F2 : Hid (Fin W me sb lg mp nb L s mem (.slice A nL cap) (.slice RA nL rcap) (.slice GA no gcap) v29 (.slice WA no wcap) v38 (.pointer P) now (w1.drewN nq)) := F1.out.below ⟨rfl, rfl, rfl, Nat.le_refl _, fun _ _ => rfl⟩
    generalize w1.drewN nq = w2 at F2 ⊢
    clear n11 n12 n13 n14 n19 n27 n28 b0 b1 b2 b3 hq1 hq2 F1
    obtain ⟨lv, ms, l1, l2, l3⟩ := F2.out.log
    have hmeq := meq_any ms lv v38 w2 l2 l3
    obtain ⟨nd, Hnd⟩ : ∃ nd, Hid (s.d.length = nd) := ⟨_, rfl⟩
    have hnd : nd ≤ 512 := by have := hs.out.1; have := Hnd.out; omega
    obtain ⟨MA, mcap, rfl⟩ : ∃ MA mcap, v29 = .slice MA nd mcap := by
      obtain ⟨MA, mcap, e⟩ := own_form F2.out.model
      rw [Hnd.out] at e
      exact ⟨MA, mcap, e⟩
    clear l2 l3
    go_upto_region 87 with (go_at_call 9; refine hmeq.mono ?_; rintro e w3 ⟨rfl, hB3⟩)
    have F3 : Hid (Fin W me sb lg mp nb L s mem (.slice A nL cap) (.slice RA nL rcap) (.slice GA no gcap) (.slice MA nd mcap) (.slice WA no wcap) v38 (.pointer P) now w3) := F2.out.below hB3
    clear hB3 l1 hmeq F2
    obtain ⟨A24, cap24, a1, a2⟩ := F3.out.n24
    rw [Hnd.out] at a1
    have HA24 : Hid (w3.cell? ⟨nb, 24, none⟩ = some (.slice A24 nd cap24) ∧ ∀ i (hi : i < s.d.length), ∃ g, A24 = some ⟨g, 0, none⟩ ∧ w3.cell? ⟨g, i, none⟩ = some (ptr s.d[i])) := ⟨a1, a2⟩
    have HR3 : Hid (∀ k ∈ s.d, RumAt w3 k (mem k) (s.key k)) := F3.out.rum
    have HM3 : Hid (w3.ownsRow 0 56 5 (.slice MA nd mcap) nd (rcells (s.d.map fun k => (mem k, s.key k)))) := by
      have := F3.out.model
      rw [Hnd.out] at this
      exact this
    clear a2
    go_wp2
    refine cmpM nb s.d mem s.key nd A24 MA cap24 mcap _ Hnd (by omega) HA24 HR3 HM3 (fun a' w4 hx => ?_)
    obtain ⟨u16, hx⟩ := hx; obtain ⟨u56, hx⟩ := hx; obtain ⟨u426, hx⟩ := hx; obtain ⟨u427, hx⟩ := hx; obtain ⟨u428, hx⟩ := hx; obtain ⟨u429, hx⟩ := hx; obtain ⟨u430, hx⟩ := hx; obtain ⟨u431, hx⟩ := hx; obtain ⟨u432, hx⟩ := hx; obtain ⟨u433, hx⟩ := hx; obtain ⟨u434, hx⟩ := hx; obtain ⟨u435, hx⟩ := hx; obtain ⟨u436, hx⟩ := hx; obtain ⟨u437, hx⟩ := hx; obtain ⟨u438, hx⟩ := hx; obtain ⟨u439, hx⟩ := hx; obtain ⟨u440, hx⟩ := hx; obtain ⟨u441, hx⟩ := hx; obtain ⟨u442, hx⟩ := hx; obtain ⟨u443, hx⟩ := hx; obtain ⟨u444, hx⟩ := hx; obtain ⟨u445, hx⟩ := hx; obtain ⟨u446, hx⟩ := hx; obtain ⟨u447, hx⟩ := hx; obtain ⟨u448, hx⟩ := hx; obtain ⟨u449, hx⟩ := hx; obtain ⟨u450, hx⟩ := hx; obtain ⟨u451, hx⟩ := hx; obtain ⟨u452, hx⟩ := hx; obtain ⟨u453, hx⟩ := hx; obtain ⟨u454, hx⟩ := hx; obtain ⟨u455, hx⟩ := hx; obtain ⟨u456, hx⟩ := hx; obtain ⟨u457, hx⟩ := hx; obtain ⟨u458, hx⟩ := hx; obtain ⟨u459, hx⟩ := hx; obtain ⟨u460, hx⟩ := hx; obtain ⟨u461, hx⟩ := hx; obtain ⟨u462, hx⟩ := hx; obtain ⟨u463, hx⟩ := hx; obtain ⟨u464, hx⟩ := hx; obtain ⟨u465, hx⟩ := hx; obtain ⟨u466, hx⟩ := hx; obtain ⟨u467, hx⟩ := hx; obtain ⟨u468, hx⟩ := hx; obtain ⟨u469, hx⟩ := hx; obtain ⟨u470, hx⟩ := hx; obtain ⟨u471, hx⟩ := hx; obtain ⟨u472, hx⟩ := hx; obtain ⟨u473, hx⟩ := hx
    obtain ⟨hx, rfl⟩ := hx
    have F4 : Hid (Fin W me sb lg mp nb L s mem (.slice A nL cap) (.slice RA nL rcap) (.slice GA no gcap) (.slice MA nd mcap) (.slice WA no wcap) v38 (.pointer P) now w4) := F3.out.below hx.out
    clear hx F3 a1 HA24 HR3 HM3
    have n15 := F4.out.n15
    have n16 := F4.out.n16
    have elen := run_len_map (P := Yba.prog) (w := w4) 39 3 mp (ents (kl L)) (kl L).length Yba.underlying39 F4.out.map
    rw [ents_size] at elen
    simp only [goInt, kl, List.length_map, HL.out] at elen
    have HAA : Hid (w4.cell? ⟨nb, 15, none⟩ = some (.map (some mp)) ∧ w4.cell? ⟨nb, 16, none⟩ = some (.slice A nL cap) ∧ w4.heap[mp]? = some (.map (ents (kl L)) (kl L).length) ∧ (L.map fun p => p.2.addr).Nodup ∧ ∀ p ∈ L, EntAt w4 p.1 p.2) := ⟨n15, n16, F4.out.map, F4.out.keys, F4.out.ent⟩
    have HRA : Hid (w4.ownsRow 0 9 1 (.slice A nL cap) nL (L.map fun p => .string p.2.addr)) := by
      have := F4.out.addr
      rw [HL.out] at this
      exact this
    have HMA : Hid (w4.ownsRow 0 29 4 (.slice RA nL rcap) nL (mcells (L.map (·.2)))) := by
      have := F4.out.recs
      rw [HL.out] at this
      exact this
    have HBW : Hid (Below W.heap.size W w4) := F4.out.bel
    go_wp2
    refine cmpA nb mp L nL A RA cap rcap _ HL (by omega) HAA HRA HMA (fun a' w5 hx => ?_)
    obtain ⟨u16, hx⟩ := hx; obtain ⟨u57, hx⟩ := hx; obtain ⟨u58, hx⟩ := hx; obtain ⟨u59, hx⟩ := hx; obtain ⟨u60, hx⟩ := hx; obtain ⟨u494, hx⟩ := hx; obtain ⟨u495, hx⟩ := hx; obtain ⟨u496, hx⟩ := hx; obtain ⟨u497, hx⟩ := hx; obtain ⟨u498, hx⟩ := hx; obtain ⟨u499, hx⟩ := hx; obtain ⟨u500, hx⟩ := hx; obtain ⟨u501, hx⟩ := hx; obtain ⟨u502, hx⟩ := hx; obtain ⟨u503, hx⟩ := hx; obtain ⟨u504, hx⟩ := hx; obtain ⟨u505, hx⟩ := hx; obtain ⟨u506, hx⟩ := hx; obtain ⟨u507, hx⟩ := hx; obtain ⟨u508, hx⟩ := hx; obtain ⟨u509, hx⟩ := hx; obtain ⟨u510, hx⟩ := hx; obtain ⟨u511, hx⟩ := hx; obtain ⟨u512, hx⟩ := hx; obtain ⟨u513, hx⟩ := hx; obtain ⟨u514, hx⟩ := hx; obtain ⟨u515, hx⟩ := hx; obtain ⟨u516, hx⟩ := hx; obtain ⟨u517, hx⟩ := hx; obtain ⟨u518, hx⟩ := hx; obtain ⟨u519, hx⟩ := hx; obtain ⟨u520, hx⟩ := hx; obtain ⟨u521, hx⟩ := hx; obtain ⟨u522, hx⟩ := hx; obtain ⟨u523, hx⟩ := hx; obtain ⟨u524, hx⟩ := hx; obtain ⟨u525, hx⟩ := hx; obtain ⟨u526, hx⟩ := hx; obtain ⟨u527, hx⟩ := hx; obtain ⟨u528, hx⟩ := hx; obtain ⟨u529, hx⟩ := hx; obtain ⟨u530, hx⟩ := hx; obtain ⟨u531, hx⟩ := hx; obtain ⟨u532, hx⟩ := hx; obtain ⟨u533, hx⟩ := hx; obtain ⟨u534, hx⟩ := hx
    obtain ⟨hx, rfl⟩ := hx
    have HB5 : Hid (Below W.heap.size W w5) := HBW.out.trans (hx.out.mono HBW.out.size)
    clear hx HAA HRA HMA elen n15 n16 F4 HBW
    go_wp2
    all_goals
      repeat apply Exists.intro
      exact ⟨⟨rfl, HB5.out⟩, rfl⟩
end Go.Proofs.Ybulkejoc

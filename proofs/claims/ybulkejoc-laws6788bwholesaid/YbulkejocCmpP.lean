/- The law compares the packets (loop 7). -/
import Derived.Test.YbulkejocFin
import Derived.Test.YbulkejocPart
import Derived.WideMake
import Derived.Deep.Cut
import Derived.Deep.CutRange
import Derived.Deep.QuietTactic
import Derived.Deep.RegionHeld
namespace Go.Proofs.Ybulkejoc
open Go.ChangeShapes Go.WideShapes Go.ChangeAt Go.RowKit
set_option maxRecDepth 1000000
variable {s0 s1 s2 s3 s4 s5 s6 s7 s8 s9 s10 s11 s12 s13 s14 s15 s16 s17 s18 s19 s20 s21 s22 s23 s24 s25 s26 s27 s28 s29 s30 s31 s32 s33 s34 s35 s36 s37 s38 s39 s40 s41 s42 s43 s44 s45 s46 s47 s48 s49 s50 s51 s52 s53 s54 s55 s56 s57 s58 s59 s60 s61 s62 s63 s64 s65 s66 s67 s68 s69 s70 s71 s72 s73 s74 s75 s76 s77 s78 s79 s80 s81 s82 s83 s84 s85 s86 s87 s88 s89 s90 s91 s92 s93 s94 s95 s96 s97 s98 s99 s100 s101 s102 s103 s104 s105 s106 s107 s108 s109 s110 s111 s112 s113 s114 s115 s116 s117 s118 s119 s120 s121 s122 s123 s124 s125 s126 s127 s128 s129 s130 s131 s132 s133 s134 s135 s136 s137 s138 s139 s140 s141 s142 s143 s144 s145 s146 s147 s148 s149 s150 s151 s152 s153 s154 s155 s156 s157 s158 s159 s160 s161 s162 s163 s164 s165 s166 s167 s168 s169 s170 s171 s172 s173 s174 s175 s176 s177 s178 s179 s180 s181 s182 s183 s184 s185 s186 s187 s188 s189 s190 s191 s192 s193 s194 s195 s196 s197 s198 s199 s200 s201 s202 s203 s204 s205 s206 s207 s208 s209 s210 s211 s212 s213 s214 s215 s216 s217 s218 s219 s220 s221 s222 s223 s224 s225 s226 s227 s228 s229 s230 s231 s232 s233 s234 s235 s236 s237 s238 s239 s240 s241 s242 s243 s244 s245 s246 s247 s248 s249 s250 s251 s252 s253 s254 s255 s256 s257 s258 s259 s260 s261 s262 s263 s264 s265 s266 s267 s268 s269 s270 s271 s272 s273 s274 s275 s276 s277 s278 s279 s280 s281 s282 s283 s284 s285 s286 s287 s288 s289 s290 s291 s292 s293 s294 s295 s296 s297 s298 s299 s300 s301 s302 s303 s304 s305 s306 s307 s308 s309 s310 s311 s312 s313 s314 s315 s316 s317 s318 s319 s320 s321 s322 s323 s324 s325 s326 s327 s328 s329 s330 s331 s332 s333 s334 s335 s336 s337 s338 s339 s340 s341 s342 s343 s344 s345 s346 s347 s348 s349 s350 s351 s352 s353 s354 s355 s356 s357 s358 s359 s360 s361 s362 s363 s364 s365 s366 s367 s368 s369 s370 s371 s372 s373 s374 s375 s376 s377 s378 s379 s380 s381 s382 s383 s384 s385 s386 s387 s388 s389 s390 s391 s392 s393 s394 s395 s396 s397 s398 s399 s400 s401 s402 s403 s404 s405 s406 s407 s408 s409 s410 s411 s412 s413 s414 s415 s416 s417 s418 s419 s420 s421 s422 s423 s424 s425 s426 s427 s428 s429 s430 s431 s432 s433 s434 s435 s436 s437 s438 s439 s440 s441 s442 s443 s444 s445 s446 s447 s448 s449 s450 s451 s452 s453 s454 s455 s456 s457 s458 s459 s460 s461 s462 s463 s464 s465 s466 s467 s468 s469 s470 s471 s472 s473 s474 s475 s476 s477 s478 s479 s480 s481 s482 s483 s484 s485 s486 s487 s488 s489 s490 s491 s492 s493 s494 s495 s496 s497 s498 s499 s500 s501 s502 s503 s504 s505 s506 s507 s508 s509 s510 s511 s512 s513 s514 s515 s516 s517 s518 s519 s520 s521 s522 s523 s524 s525 s526 s527 s528 s529 s530 s531 s532 s533 s534 : Value}

/-- One packet's cells. -/
theorem pk_cells {w : World} {B n : Nat} {v : Value} {me : Mb} {out : List (ByteArray × List Mb)} {vs : List Value} (h : w.ownsRow B 67 9 v n (ocells me out vs)) (hv : vs.length = out.length) (hn : n = out.length) {i : Nat} (hi : i < out.length) (hi' : i < vs.length) :
    ∃ g cap, v = .slice (some ⟨g, 0, none⟩) n cap ∧ g < w.heap.size ∧ w.cell? ⟨g, i * 9, none⟩ = some (.string out[i].1) ∧ w.cell? ⟨g, i * 9 + 1, none⟩ = some (.int .u8 6) ∧ w.cell? ⟨g, i * 9 + 1 + 1, none⟩ = some (.int .u64 0) ∧ w.cell? ⟨g, i * 9 + 1 + 1 + 1, none⟩ = some (.string me.addr) ∧ w.cell? ⟨g, i * 9 + 1 + 1 + 1 + 1, none⟩ = some (.int .u64 me.tok) ∧ w.cell? ⟨g, i * 9 + 1 + 1 + 1 + 1 + 1, none⟩ = some (.int .u8 me.st) ∧ w.cell? ⟨g, i * 9 + 1 + 1 + 1 + 1 + 1 + 1, none⟩ = some (.int .u64 me.inc) ∧ w.cell? ⟨g, i * 9 + 1 + 1 + 1 + 1 + 1 + 1 + 1, none⟩ = some (.string ByteArray.empty) ∧ w.cell? ⟨g, i * 9 + 1 + 1 + 1 + 1 + 1 + 1 + 1 + 1, none⟩ = some vs[i] := by
  obtain ⟨g, cap, e, hg, hc⟩ := (own_cells h).resolve_left (by rintro ⟨_, e⟩; omega)
  have c : ∀ r, r < 9 → w.cell? ⟨g, i * 9 + r, none⟩ = (pcells me out[i].1 vs[i])[r]? := fun r hr => by rw [hc _ (by omega), ocells_at me out vs hv i r hi hi' hr]
  exact ⟨g, cap, e, hg, c 0 (by omega), c 1 (by omega), c 2 (by omega), c 3 (by omega), c 4 (by omega), c 5 (by omega), c 6 (by omega), c 7 (by omega), c 8 (by omega)⟩

/-- Two blocks made, in either order. -/
theorem two_blocks (w : World) (cs ds : Array Value) (t : TypeId) : Below w.heap.size w ((w.alloc (.cells cs t)).alloc (.cells ds t)).drew ∧ ((w.alloc (.cells cs t)).alloc (.cells ds t)).drew.heap[w.heap.size]? = some (.cells cs t (0, 0)) ∧ ((w.alloc (.cells cs t)).alloc (.cells ds t)).drew.heap[w.heap.size + 1]? = some (.cells ds t (0, 0)) := by
  refine ⟨(((Below.refl _ _).alloc (Nat.le_refl _) _).alloc (by simp) _).drew, ?_, ?_⟩
  · show ((w.alloc (.cells cs t)).alloc (.cells ds t)).heap[w.heap.size]? = _
    rw [heap_alloc_old _ _ (by simp), heap_alloc_new]
  · have := heap_alloc_new (w.alloc (.cells cs t)) (.cells ds t)
    show ((w.alloc (.cells cs t)).alloc (.cells ds t)).heap[w.heap.size + 1]? = _
    simpa using this
theorem two_blocks' (w : World) (cs ds : Array Value) (t : TypeId) : Below w.heap.size w ((w.alloc (.cells cs t)).alloc (.cells ds t)).drew ∧ ((w.alloc (.cells cs t)).alloc (.cells ds t)).drew.heap[w.heap.size + 1]? = some (.cells ds t (0, 0)) ∧ ((w.alloc (.cells cs t)).alloc (.cells ds t)).drew.heap[w.heap.size]? = some (.cells cs t (0, 0)) := ⟨(two_blocks w cs ds t).1, (two_blocks w cs ds t).2.2, (two_blocks w cs ds t).2.1⟩

/-- The code is left by the exit n alone. -/
def onExit (n : Nat) (R : Act → World → Prop) : Exit → Act → World → Prop
  | .exit i, a, w => i = n ∧ R a w
  | _, _, _ => False
theorem onExit_mono {c : Code} {n : Nat} {R : Act → World → Prop} {Q : Exit → Act → World → Prop} {a : Act} {w : World} (h : c.wp Yba.prog (onExit n R) a w) (hq : ∀ a' w', R a' w' → Q (.exit n) a' w') : c.wp Yba.prog Q a w := by
  refine wp_mono h ?_
  intro e a' w' h'
  cases e with
  | exit i =>
    obtain ⟨rfl, h''⟩ := h'
    exact hq _ _ h''
  | normal => exact h'.elim
  | goto l => exact h'.elim
  | ret => exact h'.elim
  | panic x => exact h'.elim
  | outgrown => exact h'.elim

set_option maxHeartbeats 4000000 in
theorem cmpP (me : Mb) (out : List (ByteArray × List Mb)) (n : Nat) (GA WA : Option Addr) (gcap wcap : Nat) (vs ws : List Value) (w : World) (HN : Hid (out.length = n)) (hn5 : n ≤ 100000) (HV : Hid (vs.length = out.length ∧ ws.length = out.length))
    (hG : Hid (w.ownsRow 0 67 9 (.slice GA n gcap) n (ocells me out vs) ∧ ∀ i (hi : i < out.length) (hv : i < vs.length), w.ownsRow 0 29 4 vs[i] out[i].2.length (mcells out[i].2)))
    (hW : Hid (w.ownsRow 0 67 9 (.slice WA n wcap) n (ocells me out ws) ∧ ∀ i (hi : i < out.length) (hv : i < ws.length), w.ownsRow 0 29 4 ws[i] out[i].2.length (mcells out[i].2))) :
    Code.wp Yba.prog ((Yba.f3.body.bind (blk 12)).getD .skip) (onExit 12 (fun a' w' => (∃ u16 u53 u54 u55 u320 u321 u322 u323 u324 u325 u326 u327 u328 u329 u330 u331 u332 u333 u334 u335 u336 u337 u338 u339 u340 u341 u342 u343 u344 u345 u346 u347 u348 u349 u350 u351 u352 u353 u354 u355 u356 u357 u358 u359 u360 u361 u362 u363 u364 u365 u366 u367 u368 u369 u370 u371 u372 u373 u374 u375 u376 u377 u378 u379 u380 u381 u382 : Value, (Hid (Below w.heap.size w w')) ∧ a' = ⟨List.toArray (s0 :: s1 :: s2 :: s3 :: s4 :: s5 :: s6 :: s7 :: s8 :: s9 :: s10 :: s11 :: s12 :: s13 :: s14 :: s15 :: u16 :: s17 :: s18 :: s19 :: s20 :: s21 :: s22 :: s23 :: s24 :: s25 :: s26 :: s27 :: s28 :: s29 :: s30 :: s31 :: s32 :: s33 :: s34 :: s35 :: (.slice GA n gcap) :: (.slice WA n wcap) :: s38 :: s39 :: s40 :: s41 :: s42 :: s43 :: s44 :: s45 :: s46 :: s47 :: s48 :: s49 :: s50 :: s51 :: s52 :: u53 :: u54 :: u55 :: s56 :: s57 :: s58 :: s59 :: s60 :: s61 :: s62 :: s63 :: s64 :: s65 :: s66 :: s67 :: s68 :: s69 :: s70 :: s71 :: s72 :: s73 :: s74 :: s75 :: s76 :: s77 :: s78 :: s79 :: s80 :: s81 :: s82 :: s83 :: s84 :: s85 :: s86 :: s87 :: s88 :: s89 :: s90 :: s91 :: s92 :: s93 :: s94 :: s95 :: s96 :: s97 :: s98 :: s99 :: s100 :: s101 :: s102 :: s103 :: s104 :: s105 :: s106 :: s107 :: s108 :: s109 :: s110 :: s111 :: s112 :: s113 :: s114 :: s115 :: s116 :: s117 :: s118 :: s119 :: s120 :: s121 :: s122 :: s123 :: s124 :: s125 :: s126 :: s127 :: s128 :: s129 :: s130 :: s131 :: s132 :: s133 :: s134 :: s135 :: s136 :: s137 :: s138 :: s139 :: s140 :: s141 :: s142 :: s143 :: s144 :: s145 :: s146 :: s147 :: s148 :: s149 :: s150 :: s151 :: s152 :: s153 :: s154 :: s155 :: s156 :: s157 :: s158 :: s159 :: s160 :: s161 :: s162 :: s163 :: s164 :: s165 :: s166 :: s167 :: s168 :: s169 :: s170 :: s171 :: s172 :: s173 :: s174 :: s175 :: s176 :: s177 :: s178 :: s179 :: s180 :: s181 :: s182 :: s183 :: s184 :: s185 :: s186 :: s187 :: s188 :: s189 :: s190 :: s191 :: s192 :: s193 :: s194 :: s195 :: s196 :: s197 :: s198 :: s199 :: s200 :: s201 :: s202 :: s203 :: s204 :: s205 :: s206 :: s207 :: s208 :: s209 :: s210 :: s211 :: s212 :: s213 :: s214 :: s215 :: s216 :: s217 :: s218 :: s219 :: s220 :: s221 :: s222 :: s223 :: s224 :: s225 :: s226 :: s227 :: s228 :: s229 :: s230 :: s231 :: s232 :: s233 :: s234 :: s235 :: s236 :: s237 :: s238 :: s239 :: s240 :: s241 :: s242 :: s243 :: s244 :: s245 :: s246 :: s247 :: s248 :: s249 :: s250 :: s251 :: s252 :: s253 :: s254 :: s255 :: s256 :: s257 :: s258 :: s259 :: s260 :: s261 :: s262 :: s263 :: s264 :: s265 :: s266 :: s267 :: s268 :: s269 :: s270 :: s271 :: s272 :: s273 :: s274 :: s275 :: s276 :: s277 :: s278 :: s279 :: s280 :: s281 :: s282 :: s283 :: s284 :: s285 :: s286 :: s287 :: s288 :: s289 :: s290 :: s291 :: s292 :: s293 :: s294 :: s295 :: s296 :: s297 :: s298 :: s299 :: s300 :: s301 :: s302 :: s303 :: s304 :: s305 :: s306 :: s307 :: s308 :: s309 :: s310 :: s311 :: s312 :: s313 :: s314 :: s315 :: s316 :: s317 :: s318 :: (.int .i64 (n : Int)) :: u320 :: u321 :: u322 :: u323 :: u324 :: u325 :: u326 :: u327 :: u328 :: u329 :: u330 :: u331 :: u332 :: u333 :: u334 :: u335 :: u336 :: u337 :: u338 :: u339 :: u340 :: u341 :: u342 :: u343 :: u344 :: u345 :: u346 :: u347 :: u348 :: u349 :: u350 :: u351 :: u352 :: u353 :: u354 :: u355 :: u356 :: u357 :: u358 :: u359 :: u360 :: u361 :: u362 :: u363 :: u364 :: u365 :: u366 :: u367 :: u368 :: u369 :: u370 :: u371 :: u372 :: u373 :: u374 :: u375 :: u376 :: u377 :: u378 :: u379 :: u380 :: u381 :: u382 :: s383 :: s384 :: s385 :: s386 :: s387 :: s388 :: s389 :: s390 :: s391 :: s392 :: s393 :: s394 :: s395 :: s396 :: s397 :: s398 :: s399 :: s400 :: s401 :: s402 :: s403 :: s404 :: s405 :: s406 :: s407 :: s408 :: s409 :: s410 :: s411 :: s412 :: s413 :: s414 :: s415 :: s416 :: s417 :: s418 :: s419 :: s420 :: s421 :: s422 :: s423 :: s424 :: s425 :: s426 :: s427 :: s428 :: s429 :: s430 :: s431 :: s432 :: s433 :: s434 :: s435 :: s436 :: s437 :: s438 :: s439 :: s440 :: s441 :: s442 :: s443 :: s444 :: s445 :: s446 :: s447 :: s448 :: s449 :: s450 :: s451 :: s452 :: s453 :: s454 :: s455 :: s456 :: s457 :: s458 :: s459 :: s460 :: s461 :: s462 :: s463 :: s464 :: s465 :: s466 :: s467 :: s468 :: s469 :: s470 :: s471 :: s472 :: s473 :: s474 :: s475 :: s476 :: s477 :: s478 :: s479 :: s480 :: s481 :: s482 :: s483 :: s484 :: s485 :: s486 :: s487 :: s488 :: s489 :: s490 :: s491 :: s492 :: s493 :: s494 :: s495 :: s496 :: s497 :: s498 :: s499 :: s500 :: s501 :: s502 :: s503 :: s504 :: s505 :: s506 :: s507 :: s508 :: s509 :: s510 :: s511 :: s512 :: s513 :: s514 :: s515 :: s516 :: s517 :: s518 :: s519 :: s520 :: s521 :: s522 :: s523 :: s524 :: s525 :: s526 :: s527 :: s528 :: s529 :: s530 :: s531 :: s532 :: s533 :: s534 :: []), []⟩))) ⟨List.toArray (s0 :: s1 :: s2 :: s3 :: s4 :: s5 :: s6 :: s7 :: s8 :: s9 :: s10 :: s11 :: s12 :: s13 :: s14 :: s15 :: s16 :: s17 :: s18 :: s19 :: s20 :: s21 :: s22 :: s23 :: s24 :: s25 :: s26 :: s27 :: s28 :: s29 :: s30 :: s31 :: s32 :: s33 :: s34 :: s35 :: (.slice GA n gcap) :: (.slice WA n wcap) :: s38 :: s39 :: s40 :: s41 :: s42 :: s43 :: s44 :: s45 :: s46 :: s47 :: s48 :: s49 :: s50 :: s51 :: s52 :: s53 :: s54 :: s55 :: s56 :: s57 :: s58 :: s59 :: s60 :: s61 :: s62 :: s63 :: s64 :: s65 :: s66 :: s67 :: s68 :: s69 :: s70 :: s71 :: s72 :: s73 :: s74 :: s75 :: s76 :: s77 :: s78 :: s79 :: s80 :: s81 :: s82 :: s83 :: s84 :: s85 :: s86 :: s87 :: s88 :: s89 :: s90 :: s91 :: s92 :: s93 :: s94 :: s95 :: s96 :: s97 :: s98 :: s99 :: s100 :: s101 :: s102 :: s103 :: s104 :: s105 :: s106 :: s107 :: s108 :: s109 :: s110 :: s111 :: s112 :: s113 :: s114 :: s115 :: s116 :: s117 :: s118 :: s119 :: s120 :: s121 :: s122 :: s123 :: s124 :: s125 :: s126 :: s127 :: s128 :: s129 :: s130 :: s131 :: s132 :: s133 :: s134 :: s135 :: s136 :: s137 :: s138 :: s139 :: s140 :: s141 :: s142 :: s143 :: s144 :: s145 :: s146 :: s147 :: s148 :: s149 :: s150 :: s151 :: s152 :: s153 :: s154 :: s155 :: s156 :: s157 :: s158 :: s159 :: s160 :: s161 :: s162 :: s163 :: s164 :: s165 :: s166 :: s167 :: s168 :: s169 :: s170 :: s171 :: s172 :: s173 :: s174 :: s175 :: s176 :: s177 :: s178 :: s179 :: s180 :: s181 :: s182 :: s183 :: s184 :: s185 :: s186 :: s187 :: s188 :: s189 :: s190 :: s191 :: s192 :: s193 :: s194 :: s195 :: s196 :: s197 :: s198 :: s199 :: s200 :: s201 :: s202 :: s203 :: s204 :: s205 :: s206 :: s207 :: s208 :: s209 :: s210 :: s211 :: s212 :: s213 :: s214 :: s215 :: s216 :: s217 :: s218 :: s219 :: s220 :: s221 :: s222 :: s223 :: s224 :: s225 :: s226 :: s227 :: s228 :: s229 :: s230 :: s231 :: s232 :: s233 :: s234 :: s235 :: s236 :: s237 :: s238 :: s239 :: s240 :: s241 :: s242 :: s243 :: s244 :: s245 :: s246 :: s247 :: s248 :: s249 :: s250 :: s251 :: s252 :: s253 :: s254 :: s255 :: s256 :: s257 :: s258 :: s259 :: s260 :: s261 :: s262 :: s263 :: s264 :: s265 :: s266 :: s267 :: s268 :: s269 :: s270 :: s271 :: s272 :: s273 :: s274 :: s275 :: s276 :: s277 :: s278 :: s279 :: s280 :: s281 :: s282 :: s283 :: s284 :: s285 :: s286 :: s287 :: s288 :: s289 :: s290 :: s291 :: s292 :: s293 :: s294 :: s295 :: s296 :: s297 :: s298 :: s299 :: s300 :: s301 :: s302 :: s303 :: s304 :: s305 :: s306 :: s307 :: s308 :: s309 :: s310 :: s311 :: s312 :: s313 :: s314 :: s315 :: s316 :: s317 :: s318 :: (.int .i64 (n : Int)) :: (.int .i64 0) :: s321 :: s322 :: s323 :: s324 :: s325 :: s326 :: s327 :: s328 :: s329 :: s330 :: s331 :: s332 :: s333 :: s334 :: s335 :: s336 :: s337 :: s338 :: s339 :: s340 :: s341 :: s342 :: s343 :: s344 :: s345 :: s346 :: s347 :: s348 :: s349 :: s350 :: s351 :: s352 :: s353 :: s354 :: s355 :: s356 :: s357 :: s358 :: s359 :: s360 :: s361 :: s362 :: s363 :: s364 :: s365 :: s366 :: s367 :: s368 :: s369 :: s370 :: s371 :: s372 :: s373 :: s374 :: s375 :: s376 :: s377 :: s378 :: s379 :: s380 :: s381 :: s382 :: s383 :: s384 :: s385 :: s386 :: s387 :: s388 :: s389 :: s390 :: s391 :: s392 :: s393 :: s394 :: s395 :: s396 :: s397 :: s398 :: s399 :: s400 :: s401 :: s402 :: s403 :: s404 :: s405 :: s406 :: s407 :: s408 :: s409 :: s410 :: s411 :: s412 :: s413 :: s414 :: s415 :: s416 :: s417 :: s418 :: s419 :: s420 :: s421 :: s422 :: s423 :: s424 :: s425 :: s426 :: s427 :: s428 :: s429 :: s430 :: s431 :: s432 :: s433 :: s434 :: s435 :: s436 :: s437 :: s438 :: s439 :: s440 :: s441 :: s442 :: s443 :: s444 :: s445 :: s446 :: s447 :: s448 :: s449 :: s450 :: s451 :: s452 :: s453 :: s454 :: s455 :: s456 :: s457 :: s458 :: s459 :: s460 :: s461 :: s462 :: s463 :: s464 :: s465 :: s466 :: s467 :: s468 :: s469 :: s470 :: s471 :: s472 :: s473 :: s474 :: s475 :: s476 :: s477 :: s478 :: s479 :: s480 :: s481 :: s482 :: s483 :: s484 :: s485 :: s486 :: s487 :: s488 :: s489 :: s490 :: s491 :: s492 :: s493 :: s494 :: s495 :: s496 :: s497 :: s498 :: s499 :: s500 :: s501 :: s502 :: s503 :: s504 :: s505 :: s506 :: s507 :: s508 :: s509 :: s510 :: s511 :: s512 :: s513 :: s514 :: s515 :: s516 :: s517 :: s518 :: s519 :: s520 :: s521 :: s522 :: s523 :: s524 :: s525 :: s526 :: s527 :: s528 :: s529 :: s530 :: s531 :: s532 :: s533 :: s534 :: []), []⟩ w := by
  conv => arg 2; whnf
  go_loopw [320] (fun v320 wr => ∃ i : Nat, i ≤ n ∧ v320 = .int .i64 (i : Int) ∧ Hid (Below w.heap.size w wr)) (fun v320 _ => n - (intOf v320).toNat)
  case atStart => exact ⟨0, Nat.zero_le _, rfl, Below.refl _ _⟩
  case round =>
    obtain ⟨i, hi, rfl, H⟩ := hrel
    by_cases hlt : i < n
    · have hltI : (i : Int) < (n : Int) := by omega
      have hio : i < out.length := by have := HN.out; omega
      have hiv : i < vs.length := by have := HV.out.1; omega
      have hiw : i < ws.length := by have := HV.out.2; omega
      obtain ⟨g, c1, e1, hg, a0, a1, a2, a3, a4, a5, a6, a7, a8⟩ := pk_cells hG.out.1 HV.out.1 HN.out.symm hio hiv
      obtain ⟨h, c2, e2, hh, b0, b1, b2, b3, b4, b5, b6, b7, b8⟩ := pk_cells hW.out.1 HV.out.2 HN.out.symm hio hiw
      simp only [Value.slice.injEq, true_and] at e1 e2
      obtain ⟨rfl, rfl⟩ := e1
      obtain ⟨rfl, rfl⟩ := e2
      have r1 := hG.out.2 i hio hiv
      have r2 := hW.out.2 i hio hiw
      obtain ⟨v, hv⟩ : ∃ v, vs[i] = v := ⟨_, rfl⟩
      obtain ⟨v', hv'⟩ : ∃ v', ws[i] = v' := ⟨_, rfl⟩
      obtain ⟨to', hto⟩ : ∃ t, out[i].1 = t := ⟨_, rfl⟩
      obtain ⟨ms, hms⟩ : ∃ ms, out[i].2 = ms := ⟨_, rfl⟩
      rw [hv] at a8 r1
      rw [hv'] at b8 r2
      rw [hto] at a0 b0
      rw [hms] at r1 r2
      have R1 : Hid (MsAt w v ms) := r1
      have R2 : Hid (MsAt w v' ms) := r2
      have cg : ∀ o, wr.cell? ⟨g, o, none⟩ = w.cell? ⟨g, o, none⟩ := fun o => H.out.cell (p := ⟨g, o, none⟩) hg
      have ch : ∀ o, wr.cell? ⟨h, o, none⟩ = w.cell? ⟨h, o, none⟩ := fun o => H.out.cell (p := ⟨h, o, none⟩) hh
      rw [← cg] at a0 a1 a2 a3 a4 a5 a6 a7 a8
      rw [← ch] at b0 b1 b2 b3 b4 b5 b6 b7 b8
      obtain ⟨NA, nn, ncap, rfl⟩ : ∃ NA nn ncap, v = .slice NA nn ncap := by
        obtain ⟨NA, ncap, h⟩ := own_form r1
        exact ⟨NA, _, ncap, h⟩
      obtain ⟨NB, nb, nbcap, rfl⟩ : ∃ NB nb nbcap, v' = .slice NB nb nbcap := by
        obtain ⟨NA, ncap, h⟩ := own_form r2
        exact ⟨NA, _, ncap, h⟩
      have hg' : g < wr.heap.size := by have := H.out.size; omega
      have hh' : h < wr.heap.size := by have := H.out.size; omega
      clear r1 r2 cg ch hv hv' hto hms hio hiv hiw hg hh
      have hgn : g ≠ wr.heap.size := by omega
      have hhn : h ≠ wr.heap.size := by omega
      have hgn1 : g ≠ wr.heap.size + 1 := by omega
      have hhn1 : h ≠ wr.heap.size + 1 := by omega
      go_wp2
      go_region_held (fun w' => w'.cell? ⟨g, i * 9, none⟩ = some (.string to') ∧ w'.cell? ⟨g, i * 9 + 1, none⟩ = some (.int .u8 6) ∧ w'.cell? ⟨g, i * 9 + 1 + 1, none⟩ = some (.int .u64 0) ∧ w'.cell? ⟨g, i * 9 + 1 + 1 + 1, none⟩ = some (.string me.addr) ∧ w'.cell? ⟨g, i * 9 + 1 + 1 + 1 + 1, none⟩ = some (.int .u64 me.tok) ∧ w'.cell? ⟨g, i * 9 + 1 + 1 + 1 + 1 + 1, none⟩ = some (.int .u8 me.st) ∧ w'.cell? ⟨g, i * 9 + 1 + 1 + 1 + 1 + 1 + 1, none⟩ = some (.int .u64 me.inc) ∧ w'.cell? ⟨g, i * 9 + 1 + 1 + 1 + 1 + 1 + 1 + 1, none⟩ = some (.string ByteArray.empty) ∧ w'.cell? ⟨g, i * 9 + 1 + 1 + 1 + 1 + 1 + 1 + 1 + 1, none⟩ = some (.slice NA nn ncap) ∧ w'.cell? ⟨h, i * 9, none⟩ = some (.string to') ∧ w'.cell? ⟨h, i * 9 + 1, none⟩ = some (.int .u8 6) ∧ w'.cell? ⟨h, i * 9 + 1 + 1, none⟩ = some (.int .u64 0) ∧ w'.cell? ⟨h, i * 9 + 1 + 1 + 1, none⟩ = some (.string me.addr) ∧ w'.cell? ⟨h, i * 9 + 1 + 1 + 1 + 1, none⟩ = some (.int .u64 me.tok) ∧ w'.cell? ⟨h, i * 9 + 1 + 1 + 1 + 1 + 1, none⟩ = some (.int .u8 me.st) ∧ w'.cell? ⟨h, i * 9 + 1 + 1 + 1 + 1 + 1 + 1, none⟩ = some (.int .u64 me.inc) ∧ w'.cell? ⟨h, i * 9 + 1 + 1 + 1 + 1 + 1 + 1 + 1, none⟩ = some (.string ByteArray.empty) ∧ w'.cell? ⟨h, i * 9 + 1 + 1 + 1 + 1 + 1 + 1 + 1 + 1, none⟩ = some (.slice NB nb nbcap)) (go_keep) (fail)
      · have H2 : Hid (Below wr.heap.size wr ((wr.alloc (.cells #[.string to', .int .u8 6, .int .u64 0, .string me.addr, .int .u64 me.tok, .int .u8 me.st, .int .u64 me.inc, .string ByteArray.empty, .slice NA nn ncap] 67)).alloc (.cells #[.string to', .int .u8 6, .int .u64 0, .string me.addr, .int .u64 me.tok, .int .u8 me.st, .int .u64 me.inc, .string ByteArray.empty, .slice NB nb nbcap] 67)).drew ∧ ((wr.alloc (.cells #[.string to', .int .u8 6, .int .u64 0, .string me.addr, .int .u64 me.tok, .int .u8 me.st, .int .u64 me.inc, .string ByteArray.empty, .slice NA nn ncap] 67)).alloc (.cells #[.string to', .int .u8 6, .int .u64 0, .string me.addr, .int .u64 me.tok, .int .u8 me.st, .int .u64 me.inc, .string ByteArray.empty, .slice NB nb nbcap] 67)).drew.heap[wr.heap.size]? = some (.cells (pcells me to' (.slice NA nn ncap)).toArray 67 (0, 0)) ∧ ((wr.alloc (.cells #[.string to', .int .u8 6, .int .u64 0, .string me.addr, .int .u64 me.tok, .int .u8 me.st, .int .u64 me.inc, .string ByteArray.empty, .slice NA nn ncap] 67)).alloc (.cells #[.string to', .int .u8 6, .int .u64 0, .string me.addr, .int .u64 me.tok, .int .u8 me.st, .int .u64 me.inc, .string ByteArray.empty, .slice NB nb nbcap] 67)).drew.heap[wr.heap.size + 1]? = some (.cells (pcells me to' (.slice NB nb nbcap)).toArray 67 (0, 0))) := two_blocks wr _ _ _
        generalize ((wr.alloc (.cells #[.string to', .int .u8 6, .int .u64 0, .string me.addr, .int .u64 me.tok, .int .u8 me.st, .int .u64 me.inc, .string ByteArray.empty, .slice NA nn ncap] 67)).alloc (.cells #[.string to', .int .u8 6, .int .u64 0, .string me.addr, .int .u64 me.tok, .int .u8 me.st, .int .u64 me.inc, .string ByteArray.empty, .slice NB nb nbcap] 67)).drew = wc at H2 ⊢
        have hB2 := H2.out.1
        have p0 := cell_of_block H2.out.2.1 0
        have p1 := cell_of_block H2.out.2.1 1
        have p2 := cell_of_block H2.out.2.1 2
        have p3 := cell_of_block H2.out.2.1 3
        have p4 := cell_of_block H2.out.2.1 4
        have p5 := cell_of_block H2.out.2.1 5
        have p6 := cell_of_block H2.out.2.1 6
        have p7 := cell_of_block H2.out.2.1 7
        have p8 := cell_of_block H2.out.2.1 8
        have q0 := cell_of_block H2.out.2.2 0
        have q1 := cell_of_block H2.out.2.2 1
        have q2 := cell_of_block H2.out.2.2 2
        have q3 := cell_of_block H2.out.2.2 3
        have q4 := cell_of_block H2.out.2.2 4
        have q5 := cell_of_block H2.out.2.2 5
        have q6 := cell_of_block H2.out.2.2 6
        have q7 := cell_of_block H2.out.2.2 7
        have q8 := cell_of_block H2.out.2.2 8
        simp only [pcells, List.getElem?_toArray, List.getElem?_cons_zero, List.getElem?_cons_succ] at p0 p1 p2 p3 p4 p5 p6 p7 p8 q0 q1 q2 q3 q4 q5 q6 q7 q8
        have k0 : Kept (fun _ => False) w wc := Kept.of_below (H.out.trans (hB2.mono H.out.size)) (Nat.le_refl _)
        have hmeq := meq_any ms (.slice NA nn ncap) (.slice NB nb nbcap) wc (own_kept R1.out k0 (fun _ _ e => e)) (own_kept R2.out k0 (fun _ _ e => e))
        have HBw : Hid (Below w.heap.size w wc) := H.out.trans (hB2.mono H.out.size)
        clear hB2 k0 a0 a1 a2 a3 a4 a5 a6 a7 a8 b0 b1 b2 b3 b4 b5 b6 b7 b8 hg' hh'
        go_wp2_with (go_at_call 9; refine hmeq.mono ?_; rintro e w3 ⟨rfl, hB3⟩)
        go_roundw
        case rel => exact ⟨i + 1, by omega, by go_num, HBw.out.trans (hB3.mono HBw.out.size)⟩
        case measure => simp [intOf]; omega
      · have H2 : Hid (Below wr.heap.size wr ((wr.alloc (.cells #[.string to', .int .u8 6, .int .u64 0, .string me.addr, .int .u64 me.tok, .int .u8 me.st, .int .u64 me.inc, .string ByteArray.empty, .slice NB nb nbcap] 67)).alloc (.cells #[.string to', .int .u8 6, .int .u64 0, .string me.addr, .int .u64 me.tok, .int .u8 me.st, .int .u64 me.inc, .string ByteArray.empty, .slice NA nn ncap] 67)).drew ∧ ((wr.alloc (.cells #[.string to', .int .u8 6, .int .u64 0, .string me.addr, .int .u64 me.tok, .int .u8 me.st, .int .u64 me.inc, .string ByteArray.empty, .slice NB nb nbcap] 67)).alloc (.cells #[.string to', .int .u8 6, .int .u64 0, .string me.addr, .int .u64 me.tok, .int .u8 me.st, .int .u64 me.inc, .string ByteArray.empty, .slice NA nn ncap] 67)).drew.heap[wr.heap.size + 1]? = some (.cells (pcells me to' (.slice NA nn ncap)).toArray 67 (0, 0)) ∧ ((wr.alloc (.cells #[.string to', .int .u8 6, .int .u64 0, .string me.addr, .int .u64 me.tok, .int .u8 me.st, .int .u64 me.inc, .string ByteArray.empty, .slice NB nb nbcap] 67)).alloc (.cells #[.string to', .int .u8 6, .int .u64 0, .string me.addr, .int .u64 me.tok, .int .u8 me.st, .int .u64 me.inc, .string ByteArray.empty, .slice NA nn ncap] 67)).drew.heap[wr.heap.size]? = some (.cells (pcells me to' (.slice NB nb nbcap)).toArray 67 (0, 0))) := two_blocks' wr _ _ _
        generalize ((wr.alloc (.cells #[.string to', .int .u8 6, .int .u64 0, .string me.addr, .int .u64 me.tok, .int .u8 me.st, .int .u64 me.inc, .string ByteArray.empty, .slice NB nb nbcap] 67)).alloc (.cells #[.string to', .int .u8 6, .int .u64 0, .string me.addr, .int .u64 me.tok, .int .u8 me.st, .int .u64 me.inc, .string ByteArray.empty, .slice NA nn ncap] 67)).drew = wc at H2 ⊢
        have hB2 := H2.out.1
        have p0 := cell_of_block H2.out.2.1 0
        have p1 := cell_of_block H2.out.2.1 1
        have p2 := cell_of_block H2.out.2.1 2
        have p3 := cell_of_block H2.out.2.1 3
        have p4 := cell_of_block H2.out.2.1 4
        have p5 := cell_of_block H2.out.2.1 5
        have p6 := cell_of_block H2.out.2.1 6
        have p7 := cell_of_block H2.out.2.1 7
        have p8 := cell_of_block H2.out.2.1 8
        have q0 := cell_of_block H2.out.2.2 0
        have q1 := cell_of_block H2.out.2.2 1
        have q2 := cell_of_block H2.out.2.2 2
        have q3 := cell_of_block H2.out.2.2 3
        have q4 := cell_of_block H2.out.2.2 4
        have q5 := cell_of_block H2.out.2.2 5
        have q6 := cell_of_block H2.out.2.2 6
        have q7 := cell_of_block H2.out.2.2 7
        have q8 := cell_of_block H2.out.2.2 8
        simp only [pcells, List.getElem?_toArray, List.getElem?_cons_zero, List.getElem?_cons_succ] at p0 p1 p2 p3 p4 p5 p6 p7 p8 q0 q1 q2 q3 q4 q5 q6 q7 q8
        have k0 : Kept (fun _ => False) w wc := Kept.of_below (H.out.trans (hB2.mono H.out.size)) (Nat.le_refl _)
        have hmeq := meq_any ms (.slice NA nn ncap) (.slice NB nb nbcap) wc (own_kept R1.out k0 (fun _ _ e => e)) (own_kept R2.out k0 (fun _ _ e => e))
        have HBw : Hid (Below w.heap.size w wc) := H.out.trans (hB2.mono H.out.size)
        clear hB2 k0 a0 a1 a2 a3 a4 a5 a6 a7 a8 b0 b1 b2 b3 b4 b5 b6 b7 b8 hg' hh'
        go_wp2_with (go_at_call 9; refine hmeq.mono ?_; rintro e w3 ⟨rfl, hB3⟩)
        go_roundw
        case rel => exact ⟨i + 1, by omega, by go_num, HBw.out.trans (hB3.mono HBw.out.size)⟩
        case measure => simp [intOf]; omega
    · have hltI : ¬ (i : Int) < (n : Int) := by omega
      go_wp2
      all_goals
        refine ⟨rfl, H.out, ?_⟩
        repeat apply Exists.intro
        exact rfl
end Go.Proofs.Ybulkejoc

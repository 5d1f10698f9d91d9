/- The law's own departure, where the node had not left: its log, its packets. -/
import Derived.Test.YbulkejocWnt
import Derived.WideMake
import Derived.Deep.Cut
import Derived.Deep.CutRange
import Derived.Outline
namespace Go.Proofs.Ybulkejoc
open Go.ChangeShapes Go.WideShapes Go.ChangeAt Go.RowKit
set_option maxRecDepth 1000000
variable {s0 s1 s2 s3 s4 s5 s6 s7 s8 s9 s10 s11 s12 s13 s14 s15 s16 s17 s18 s19 s20 s21 s22 s23 s24 s25 s26 s27 s28 s29 s30 s31 s32 s33 s34 s35 s36 s37 s38 s39 s40 s41 s42 s43 s44 s45 s46 s47 s48 s49 s50 s51 s52 s53 s54 s55 s56 s57 s58 s59 s60 s61 s62 s63 s64 s65 s66 s67 s68 s69 s70 s71 s72 s73 s74 s75 s76 s77 s78 s79 s80 s81 s82 s83 s84 s85 s86 s87 s88 s89 s90 s91 s92 s93 s94 s95 s96 s97 s98 s99 s100 s101 s102 s103 s104 s105 s106 s107 s108 s109 s110 s111 s112 s113 s114 s115 s116 s117 s118 s119 s120 s121 s122 s123 s124 s125 s126 s127 s128 s129 s130 s131 s132 s133 s134 s135 s136 s137 s138 s139 s140 s141 s142 s143 s144 s145 s146 s147 s148 s149 s150 s151 s152 s153 s154 s155 s156 s157 s158 s159 s160 s161 s162 s163 s164 s165 s166 s167 s168 s169 s170 s171 s172 s173 s174 s175 s176 s177 s178 s179 s180 s181 s182 s183 s184 s185 s186 s187 s188 s189 s190 s191 s192 s193 s194 s195 s196 s197 s198 s199 s200 s201 s202 s203 s204 s205 s206 s207 s208 s209 s210 s211 s212 s213 s214 s215 s216 s217 s218 s219 s220 s221 s222 s223 s224 s225 s226 s227 s228 s229 s230 s231 s232 s233 s234 s235 s236 s237 s238 s239 s240 s241 s242 s243 s244 s245 s246 s247 s248 s249 s250 s251 s252 s253 s254 s255 s256 s257 s258 s259 s260 s261 s262 s263 s264 s265 s266 s267 s268 s269 s270 s271 s272 s273 s274 s275 s276 s277 s278 s279 s280 s281 s282 s283 s284 s285 s286 s287 s288 s289 s290 s291 s292 s293 s294 s295 s296 s297 s298 s299 s300 s301 s302 s303 s304 s305 s306 s307 s308 s309 s310 s311 s312 s313 s314 s315 s316 s317 s318 s319 s320 s321 s322 s323 s324 s325 s326 s327 s328 s329 s330 s331 s332 s333 s334 s335 s336 s337 s338 s339 s340 s341 s342 s343 s344 s345 s346 s347 s348 s349 s350 s351 s352 s353 s354 s355 s356 s357 s358 s359 s360 s361 s362 s363 s364 s365 s366 s367 s368 s369 s370 s371 s372 s373 s374 s375 s376 s377 s378 s379 s380 s381 s382 s383 s384 s385 s386 s387 s388 s389 s390 s391 s392 s393 s394 s395 s396 s397 s398 s399 s400 s401 s402 s403 s404 s405 s406 s407 s408 s409 s410 s411 s412 s413 s414 s415 s416 s417 s418 s419 s420 s421 s422 s423 s424 s425 s426 s427 s428 s429 s430 s431 s432 s433 s434 s435 s436 s437 s438 s439 s440 s441 s442 s443 s444 s445 s446 s447 s448 s449 s450 s451 s452 s453 s454 s455 s456 s457 s458 s459 s460 s461 s462 s463 s464 s465 s466 s467 s468 s469 s470 s471 s472 s473 s474 s475 s476 s477 s478 s479 s480 s481 s482 s483 s484 s485 s486 s487 s488 s489 s490 s491 s492 s493 s494 s495 s496 s497 s498 s499 s500 s501 s502 s503 s504 s505 s506 s507 s508 s509 s510 s511 s512 s513 s514 s515 s516 s517 s518 s519 s520 s521 s522 s523 s524 s525 s526 s527 s528 s529 s530 s531 s532 s533 s534 : Value}

theorem good_start {R : List (Nat × Mb × Int)} {f : Nat → Mb × Int} (hf : ∀ p ∈ R, f p.1 = p.2) (h1 : (R.map (·.1)).Nodup) (h2 : ∀ p ∈ R, p.2.1.Ok ∧ 0 ≤ p.2.2 ∧ p.2.2 ≤ 15) : Ls.Good (R.map (·.1)) 0 ⟨R.map (·.1), fun k => (f k).2, []⟩ := by
  refine ⟨h1, fun k hk => hk, Nat.le_refl _, fun k hk => ?_, fun k hk => ?_, Nat.le_refl _⟩
  all_goals
    obtain ⟨p, hp, rfl⟩ := List.mem_map.1 hk
    have := h2 p hp
    have e := hf p hp
    simp only [e]
    omega


set_option maxHeartbeats 4000000 in
theorem ntL (W wa : World) (me : Mb) (use : Bool) (sb lg mp pb nb : Nat) (L : List (Nat × Mb)) (R : List (Nat × Mb × Int)) (f : Nat → Mb × Int) (emem : Nat → Mb) (vA rA mA : Option Addr) (vaC vrC vmC : Nat) (got : Value) (now : Int) (hmeok : me.Ok) (hleft : me.st ≠ 3)
    (HRok : Hid ((R.map (·.1)).Nodup ∧ (∀ p ∈ R, p.2.1.Ok ∧ 0 ≤ p.2.2 ∧ p.2.2 ≤ 15) ∧ R.length ≤ 512 ∧ L.length ≤ 512)) (HA : Hid ((∀ p ∈ R, f p.1 = p.2) ∧ (∀ p ∈ L, emem p.1 = p.2)))
    (HA' : Hid (Aft W me use sb lg mp pb nb L (lvF (fun k => (f k).1) emem me L (R.map (·.1)) (fun k => (f k).2)) (fun k => (f k).1) (R.map (·.2)) (.slice vA L.length vaC) (.slice rA L.length vrC) (.slice mA R.length vmC) got now wa)) {Q : Exit → Act → World → Prop}
    (hnorm : ∀ a' w', (∃ u29 u37 u38 u39 u40 u41 u42 u43 u44 u45 u46 u47 u48 u49 u51 u52 u181 u182 u183 u184 u185 u186 u187 u188 u189 u190 u191 u192 u193 u194 u195 u196 u197 u198 u199 u200 u201 u202 u203 u204 u205 u206 u207 u208 u209 u210 u211 u212 u213 u214 u215 u216 u217 u218 u219 u220 u221 u222 u223 u224 u225 u226 u227 u228 u229 u230 u231 u232 u233 u234 u235 u236 u237 u238 u239 u240 u241 u242 u243 u244 u245 u246 u247 u248 u249 u250 u251 u252 u253 u254 u255 u256 u257 u258 u259 u260 u261 u262 u263 u264 u265 u266 u267 u268 u269 u270 u271 u272 u273 u274 u275 u276 u277 u278 u279 u280 u281 u282 u283 u284 u285 u286 u287 u288 u289 u290 u291 u292 u293 u294 u295 u296 u297 u298 u299 u300 u301 u302 u303 u304 u305 : Value, (Hid (WantEnd wa me use sb pb (lvF (fun k => (f k).1) emem me L (R.map (·.1)) (fun k => (f k).2)) (fun k => (f k).1) (.slice mA R.length vmC) u29 u37 u38 u39 w')) ∧ a' = ⟨List.toArray (s0 :: s1 :: s2 :: s3 :: s4 :: s5 :: (.bool use) :: s7 :: s8 :: s9 :: s10 :: s11 :: s12 :: s13 :: s14 :: s15 :: s16 :: (.pointer (some ⟨sb, 0, none⟩)) :: s18 :: s19 :: (.map (some mp)) :: (.slice vA L.length vaC) :: (.slice rA L.length vrC) :: s23 :: s24 :: s25 :: s26 :: s27 :: s28 :: u29 :: s30 :: s31 :: s32 :: s33 :: s34 :: s35 :: s36 :: u37 :: u38 :: u39 :: u40 :: u41 :: u42 :: u43 :: u44 :: u45 :: u46 :: u47 :: u48 :: u49 :: s50 :: u51 :: u52 :: s53 :: s54 :: s55 :: s56 :: s57 :: s58 :: s59 :: s60 :: s61 :: s62 :: s63 :: s64 :: s65 :: s66 :: s67 :: s68 :: s69 :: s70 :: s71 :: s72 :: s73 :: s74 :: s75 :: s76 :: s77 :: s78 :: s79 :: s80 :: s81 :: s82 :: s83 :: s84 :: s85 :: s86 :: s87 :: s88 :: s89 :: s90 :: s91 :: s92 :: s93 :: s94 :: s95 :: s96 :: s97 :: s98 :: s99 :: s100 :: s101 :: s102 :: s103 :: s104 :: s105 :: s106 :: s107 :: s108 :: s109 :: s110 :: s111 :: s112 :: s113 :: s114 :: s115 :: s116 :: s117 :: s118 :: s119 :: s120 :: s121 :: s122 :: s123 :: s124 :: s125 :: s126 :: s127 :: s128 :: s129 :: s130 :: s131 :: s132 :: s133 :: s134 :: s135 :: s136 :: s137 :: s138 :: s139 :: s140 :: s141 :: s142 :: s143 :: s144 :: s145 :: s146 :: s147 :: s148 :: s149 :: s150 :: s151 :: s152 :: s153 :: s154 :: s155 :: s156 :: s157 :: s158 :: s159 :: s160 :: s161 :: s162 :: s163 :: s164 :: s165 :: s166 :: s167 :: s168 :: s169 :: s170 :: s171 :: s172 :: s173 :: s174 :: s175 :: s176 :: s177 :: s178 :: s179 :: s180 :: u181 :: u182 :: u183 :: u184 :: u185 :: u186 :: u187 :: u188 :: u189 :: u190 :: u191 :: u192 :: u193 :: u194 :: u195 :: u196 :: u197 :: u198 :: u199 :: u200 :: u201 :: u202 :: u203 :: u204 :: u205 :: u206 :: u207 :: u208 :: u209 :: u210 :: u211 :: u212 :: u213 :: u214 :: u215 :: u216 :: u217 :: u218 :: u219 :: u220 :: u221 :: u222 :: u223 :: u224 :: u225 :: u226 :: u227 :: u228 :: u229 :: u230 :: u231 :: u232 :: u233 :: u234 :: u235 :: u236 :: u237 :: u238 :: u239 :: u240 :: u241 :: u242 :: u243 :: u244 :: u245 :: u246 :: u247 :: u248 :: u249 :: u250 :: u251 :: u252 :: u253 :: u254 :: u255 :: u256 :: u257 :: u258 :: u259 :: u260 :: u261 :: u262 :: u263 :: u264 :: u265 :: u266 :: u267 :: u268 :: u269 :: u270 :: u271 :: u272 :: u273 :: u274 :: u275 :: u276 :: u277 :: u278 :: u279 :: u280 :: u281 :: u282 :: u283 :: u284 :: u285 :: u286 :: u287 :: u288 :: u289 :: u290 :: u291 :: u292 :: u293 :: u294 :: u295 :: u296 :: u297 :: u298 :: u299 :: u300 :: u301 :: u302 :: u303 :: u304 :: u305 :: s306 :: s307 :: s308 :: s309 :: s310 :: s311 :: s312 :: s313 :: s314 :: s315 :: s316 :: s317 :: s318 :: s319 :: s320 :: s321 :: s322 :: s323 :: s324 :: s325 :: s326 :: s327 :: s328 :: s329 :: s330 :: s331 :: s332 :: s333 :: s334 :: s335 :: s336 :: s337 :: s338 :: s339 :: s340 :: s341 :: s342 :: s343 :: s344 :: s345 :: s346 :: s347 :: s348 :: s349 :: s350 :: s351 :: s352 :: s353 :: s354 :: s355 :: s356 :: s357 :: s358 :: s359 :: s360 :: s361 :: s362 :: s363 :: s364 :: s365 :: s366 :: s367 :: s368 :: s369 :: s370 :: s371 :: s372 :: s373 :: s374 :: s375 :: s376 :: s377 :: s378 :: s379 :: s380 :: s381 :: s382 :: s383 :: s384 :: s385 :: s386 :: s387 :: s388 :: s389 :: s390 :: s391 :: s392 :: s393 :: s394 :: s395 :: s396 :: s397 :: s398 :: s399 :: s400 :: s401 :: s402 :: s403 :: s404 :: s405 :: s406 :: s407 :: s408 :: s409 :: s410 :: s411 :: s412 :: s413 :: s414 :: s415 :: s416 :: s417 :: s418 :: s419 :: s420 :: s421 :: s422 :: s423 :: s424 :: s425 :: s426 :: s427 :: s428 :: s429 :: s430 :: s431 :: s432 :: s433 :: s434 :: s435 :: s436 :: s437 :: s438 :: s439 :: s440 :: s441 :: s442 :: s443 :: s444 :: s445 :: s446 :: s447 :: s448 :: s449 :: s450 :: s451 :: s452 :: s453 :: s454 :: s455 :: s456 :: s457 :: s458 :: s459 :: s460 :: s461 :: s462 :: s463 :: s464 :: s465 :: s466 :: s467 :: s468 :: s469 :: s470 :: s471 :: s472 :: s473 :: s474 :: s475 :: s476 :: s477 :: s478 :: s479 :: s480 :: s481 :: s482 :: s483 :: s484 :: s485 :: s486 :: s487 :: s488 :: s489 :: s490 :: s491 :: s492 :: s493 :: s494 :: s495 :: s496 :: s497 :: s498 :: s499 :: s500 :: s501 :: s502 :: s503 :: s504 :: s505 :: s506 :: s507 :: s508 :: s509 :: s510 :: s511 :: s512 :: s513 :: s514 :: s515 :: s516 :: s517 :: s518 :: s519 :: s520 :: s521 :: s522 :: s523 :: s524 :: s525 :: s526 :: s527 :: s528 :: s529 :: s530 :: s531 :: s532 :: s533 :: s534 :: []), []⟩) → Q .normal a' w') :
    Code.wp Yba.prog ((Yba.f3.body.bind (fromR 38)).getD .skip) Q ⟨List.toArray (s0 :: s1 :: s2 :: s3 :: s4 :: s5 :: (.bool use) :: s7 :: s8 :: s9 :: s10 :: s11 :: s12 :: s13 :: s14 :: s15 :: s16 :: (.pointer (some ⟨sb, 0, none⟩)) :: s18 :: s19 :: (.map (some mp)) :: (.slice vA L.length vaC) :: (.slice rA L.length vrC) :: s23 :: s24 :: s25 :: s26 :: s27 :: s28 :: (.slice mA R.length vmC) :: s30 :: s31 :: s32 :: s33 :: s34 :: s35 :: s36 :: (.slice none 0 0) :: (.slice none 0 0) :: s39 :: s40 :: s41 :: s42 :: s43 :: s44 :: s45 :: s46 :: s47 :: s48 :: s49 :: s50 :: s51 :: s52 :: s53 :: s54 :: s55 :: s56 :: s57 :: s58 :: s59 :: s60 :: s61 :: s62 :: s63 :: s64 :: s65 :: s66 :: s67 :: s68 :: s69 :: s70 :: s71 :: s72 :: s73 :: s74 :: s75 :: s76 :: s77 :: s78 :: s79 :: s80 :: s81 :: s82 :: s83 :: s84 :: s85 :: s86 :: s87 :: s88 :: s89 :: s90 :: s91 :: s92 :: s93 :: s94 :: s95 :: s96 :: s97 :: s98 :: s99 :: s100 :: s101 :: s102 :: s103 :: s104 :: s105 :: s106 :: s107 :: s108 :: s109 :: s110 :: s111 :: s112 :: s113 :: s114 :: s115 :: s116 :: s117 :: s118 :: s119 :: s120 :: s121 :: s122 :: s123 :: s124 :: s125 :: s126 :: s127 :: s128 :: s129 :: s130 :: s131 :: s132 :: s133 :: s134 :: s135 :: s136 :: s137 :: s138 :: s139 :: s140 :: s141 :: s142 :: s143 :: s144 :: s145 :: s146 :: s147 :: s148 :: s149 :: s150 :: s151 :: s152 :: s153 :: s154 :: s155 :: s156 :: s157 :: s158 :: s159 :: s160 :: s161 :: s162 :: s163 :: s164 :: s165 :: s166 :: s167 :: s168 :: s169 :: s170 :: s171 :: s172 :: s173 :: s174 :: s175 :: s176 :: s177 :: s178 :: s179 :: s180 :: s181 :: s182 :: s183 :: s184 :: s185 :: s186 :: s187 :: s188 :: s189 :: s190 :: s191 :: s192 :: s193 :: s194 :: s195 :: s196 :: s197 :: s198 :: s199 :: s200 :: s201 :: s202 :: s203 :: s204 :: s205 :: s206 :: s207 :: s208 :: s209 :: s210 :: s211 :: s212 :: s213 :: s214 :: s215 :: s216 :: s217 :: s218 :: s219 :: s220 :: s221 :: s222 :: s223 :: s224 :: s225 :: s226 :: s227 :: s228 :: s229 :: s230 :: s231 :: s232 :: s233 :: s234 :: s235 :: s236 :: s237 :: s238 :: s239 :: s240 :: s241 :: s242 :: s243 :: s244 :: s245 :: s246 :: s247 :: s248 :: s249 :: s250 :: s251 :: s252 :: s253 :: s254 :: s255 :: s256 :: s257 :: s258 :: s259 :: s260 :: s261 :: s262 :: s263 :: s264 :: s265 :: s266 :: s267 :: s268 :: s269 :: s270 :: s271 :: s272 :: s273 :: s274 :: s275 :: s276 :: s277 :: s278 :: s279 :: s280 :: s281 :: s282 :: s283 :: s284 :: s285 :: s286 :: s287 :: s288 :: s289 :: s290 :: s291 :: s292 :: s293 :: s294 :: s295 :: s296 :: s297 :: s298 :: s299 :: s300 :: s301 :: s302 :: s303 :: s304 :: s305 :: s306 :: s307 :: s308 :: s309 :: s310 :: s311 :: s312 :: s313 :: s314 :: s315 :: s316 :: s317 :: s318 :: s319 :: s320 :: s321 :: s322 :: s323 :: s324 :: s325 :: s326 :: s327 :: s328 :: s329 :: s330 :: s331 :: s332 :: s333 :: s334 :: s335 :: s336 :: s337 :: s338 :: s339 :: s340 :: s341 :: s342 :: s343 :: s344 :: s345 :: s346 :: s347 :: s348 :: s349 :: s350 :: s351 :: s352 :: s353 :: s354 :: s355 :: s356 :: s357 :: s358 :: s359 :: s360 :: s361 :: s362 :: s363 :: s364 :: s365 :: s366 :: s367 :: s368 :: s369 :: s370 :: s371 :: s372 :: s373 :: s374 :: s375 :: s376 :: s377 :: s378 :: s379 :: s380 :: s381 :: s382 :: s383 :: s384 :: s385 :: s386 :: s387 :: s388 :: s389 :: s390 :: s391 :: s392 :: s393 :: s394 :: s395 :: s396 :: s397 :: s398 :: s399 :: s400 :: s401 :: s402 :: s403 :: s404 :: s405 :: s406 :: s407 :: s408 :: s409 :: s410 :: s411 :: s412 :: s413 :: s414 :: s415 :: s416 :: s417 :: s418 :: s419 :: s420 :: s421 :: s422 :: s423 :: s424 :: s425 :: s426 :: s427 :: s428 :: s429 :: s430 :: s431 :: s432 :: s433 :: s434 :: s435 :: s436 :: s437 :: s438 :: s439 :: s440 :: s441 :: s442 :: s443 :: s444 :: s445 :: s446 :: s447 :: s448 :: s449 :: s450 :: s451 :: s452 :: s453 :: s454 :: s455 :: s456 :: s457 :: s458 :: s459 :: s460 :: s461 :: s462 :: s463 :: s464 :: s465 :: s466 :: s467 :: s468 :: s469 :: s470 :: s471 :: s472 :: s473 :: s474 :: s475 :: s476 :: s477 :: s478 :: s479 :: s480 :: s481 :: s482 :: s483 :: s484 :: s485 :: s486 :: s487 :: s488 :: s489 :: s490 :: s491 :: s492 :: s493 :: s494 :: s495 :: s496 :: s497 :: s498 :: s499 :: s500 :: s501 :: s502 :: s503 :: s504 :: s505 :: s506 :: s507 :: s508 :: s509 :: s510 :: s511 :: s512 :: s513 :: s514 :: s515 :: s516 :: s517 :: s518 :: s519 :: s520 :: s521 :: s522 :: s523 :: s524 :: s525 :: s526 :: s527 :: s528 :: s529 :: s530 :: s531 :: s532 :: s533 :: s534 :: []), []⟩ wa := by
  conv => arg 2; whnf
  have hl3 : L.length ≤ 512 := HRok.out.2.2.2
  have hs2 := cell_of_block HA'.out.self 2
  simp only [List.getElem?_toArray, List.getElem?_cons_zero, List.getElem?_cons_succ] at hs2
  obtain ⟨hs1, hk1⟩ := self_store HA'.out.self
  have f2 := frozen_of_block HA'.out.self 2
  have e0 := cell_of_block hs1 0
  have e1 := cell_of_block hs1 1
  have e2 := cell_of_block hs1 2
  have e3 := cell_of_block hs1 3
  simp only [List.getElem?_toArray, List.getElem?_cons_zero, List.getElem?_cons_succ] at e0 e1 e2 e3
  have Hs1 : Hid ((wa.setCell ⟨sb, 2, none⟩ (.int .u8 3)).heap[sb]? = some (.cells #[.string me.addr, .int .u64 me.tok, .int .u8 3, .int .u64 me.inc] 29 (0, 0))) := hs1
  clear hs1
  have hlg0 : (wa.setCell ⟨sb, 2, none⟩ (.int .u8 3)).ownsRow wa.heap.size 29 4 (.slice none 0 0) 0 [] := World.ownsRow_nil _ _ _ _
  have hsz1 : (wa.setCell ⟨sb, 2, none⟩ (.int .u8 3)).heap.size = wa.heap.size := by simp
  obtain ⟨lgb, lgc, wl, hrl, hol, hkl⟩ := append_one (t := 30) Yba.underlying30 info29 rfl (by omega) hlg0 (by omega) #[.string me.addr, .int .u64 me.tok, .int .u8 3, .int .u64 me.inc] rfl (by intro u hu; simp at hu; rcases hu with rfl | rfl | rfl | rfl <;> rfl) (by omega) (by omega)
  rw [hsz1] at hrl
  have Hl : Hid (wl.ownsRow wa.heap.size 29 4 (.slice (some ⟨lgb, 0, none⟩) 1 lgc) 1 (gone me).cells ∧ Kept (fun b => b = sb) wa wl ∧ wl.heap[sb]? = some (.cells #[.string me.addr, .int .u64 me.tok, .int .u8 3, .int .u64 me.inc] 29 (0, 0))) := by
    refine ⟨by simpa [gone, Mb.cells] using hol, hk1.trans hkl (fun _ _ h => by simp [Value.ownBlock] at h), ?_⟩
    rw [hkl.block sb (lt_of_heap Hs1.out) (by simp [Value.ownBlock])]
    exact Hs1.out
  have Hl0 : Hid (Kept (fun b => b = sb) wa (wa.setCell ⟨sb, 2, none⟩ (.int .u8 3))) := hk1
  clear hol hkl hlg0 hk1
  go_upto_if 182 with fail
  go_cut [38] from 181 to 186 (fun v38 w => Hid (w.ownsRow wa.heap.size 29 4 v38 (if use then 1 else 0) (if use then (gone me).cells else []) ∧ Kept (fun b => b = sb) wa w ∧ w.heap[sb]? = some (.cells #[.string me.addr, .int .u64 me.tok, .int .u8 3, .int .u64 me.inc] 29 (0, 0))))
  case first =>
    cases use
    · go_wp2
      go_meet
      exact ⟨World.ownsRow_nil _ _ _ _, Hl0.out, Hs1.out⟩
    · go_wp2_with (at_builtin; refine wpList_append_eq (by rfl) _ _ 30 (by rfl) (.slice none 0 0) (.slice (some ⟨wa.heap.size, 0, none⟩) 1 1) _ _ (by rfl) (by rfl) hrl ?_)
      go_meet
      exact Hl.out
  case rest =>
    have HW0 := hcut
    clear e0 e1 e2 e3 f2 hrl Hl Hl0 Hs1 hs2 hcut
    have e0 := cell_of_block HW0.out.2.2 0
    have e1 := cell_of_block HW0.out.2.2 1
    have e2 := cell_of_block HW0.out.2.2 2
    have e3 := cell_of_block HW0.out.2.2 3
    simp only [List.getElem?_toArray, List.getElem?_cons_zero, List.getElem?_cons_succ] at e0 e1 e2 e3
    have hnl : (kl L).length ≤ 512 := by simp [kl]; omega
    obtain ⟨Lb, HLb⟩ : ∃ Lb : Nat, Hid (Lib.bitLen ((kl L).length + 1) = Lb) := ⟨_, rfl⟩
    have hLb := bitLen_bd ((kl L).length + 1) (by omega)
    rw [HLb.out] at hLb
    have hlenc : ∀ W', Calls Yba.prog 6 #[.int .u64 (((kl L).length : Int) + 1)] W' fun e w' => e = .returned (.int .i64 Lb) ∧ w' = W' := by
      intro W'
      have := Yba.bits_Len (((kl L).length : Int) + 1) W' (by omega) (by omega)
      rw [show (((kl L).length : Int) + 1).toNat = (kl L).length + 1 by omega, HLb.out] at this
      exact this
    have hmap1 : wc.heap[mp]? = some (.map (ents (kl L)) (kl L).length) := by
      rw [HW0.out.2.1.block mp (lt_of_heap HA'.out.map) (cell_not_map HA'.out.map (by rw [cell_of_block HA'.out.self 0]; rfl : wa.cell? ⟨sb, 0, none⟩ = some (.string me.addr)))]
      exact HA'.out.map
    have elen := run_len_map (P := Yba.prog) (w := wc) 39 3 mp (ents (kl L)) (kl L).length Yba.underlying39 hmap1
    rw [ents_size] at elen
    simp only [goInt] at elen
    clear hmap1
    have hgok : (gone me).Ok := ⟨hmeok.len, hmeok.tok, by show 3 < 256; omega, hmeok.inc⟩
    have hrec := fun W' => rec_any (gone me) hgok W'
    simp only [gone] at hrec
    have hrbd := recF_bd hgok
    obtain ⟨rc, HRc⟩ : ∃ rc : Int, Hid (recF (gone me) = rc) := ⟨_, rfl⟩
    have hrc2 : recF ⟨me.addr, me.tok, 3, me.inc⟩ = rc := HRc.out
    rw [hrc2] at hrec
    rw [HRc.out] at hrbd
    clear hrc2
    go_wp2_with (first | (go_at_call 6; refine (hlenc _).mono ?_; rintro e w4 ⟨rfl, rfl⟩) | (go_at_call 7; refine (hrec _).mono ?_; rintro e w5 ⟨rfl, hB5⟩))
    have Hst3 : Hid (WantAt W wa me use sb (.slice mA R.length vmC) (fun k => (f k).1) ⟨R.map (·.1), fun k => (f k).2, []⟩ (.slice mA R.length vmC) (.slice none 0 0) u38 w5) := want_start HA.out.1 HA'.out HW0.out hB5
    have hleft' : Hid (me.st ≠ 3) := hleft
    have HG0 : Hid (Ls.Good (R.map (·.1)) 0 ⟨R.map (·.1), fun k => (f k).2, []⟩) := good_start HA.out.1 HRok.out.1 HRok.out.2.1
    have Hd0 : Hid ((R.map (·.1)).length ≤ 512 ∧ (∀ k ∈ R.map (·.1), ((fun k => (f k).1) k).Ok) ∧ W.heap.size ≤ wa.heap.size) := by
      refine ⟨by simpa using HRok.out.2.2.1, fun k hk => ?_, HA'.out.bel.size⟩
      obtain ⟨p, hp, rfl⟩ := List.mem_map.1 hk
      show (f p.1).1.Ok
      rw [HA.out.1 p hp]
      exact (HRok.out.2.1 p hp).1
    have HE0 : Hid (∀ p ∈ L, emem p.1 = p.2 ∧ p.2.st < 4) := fun p hp => ⟨HA.out.2 p hp, (HA'.out.lok p hp).2⟩
    have Hadr : Hid (wa.ownsRow 0 9 1 (.slice vA L.length vaC) L.length (L.map fun p => .string p.2.addr) ∧ ∀ b, (Value.slice vA L.length vaC).ownBlock = some b → b ≠ sb ∧ (Value.slice mA R.length vmC).ownBlock ≠ some b) := ⟨HA'.out.addr, fun b hb => ⟨HA'.out.vas b hb, own_ne HA'.out.addr HA'.out.model (by decide) hb⟩⟩
    have Hrec : Hid (wa.ownsRow 0 29 4 (.slice rA L.length vrC) L.length (mcells (L.map (·.2))) ∧ ∀ b, (Value.slice rA L.length vrC).ownBlock = some b → b ≠ sb ∧ (Value.slice mA R.length vmC).ownBlock ≠ some b) := ⟨HA'.out.recs, fun b hb => ⟨HA'.out.vrs b hb, own_ne HA'.out.recs HA'.out.model (by decide) hb⟩⟩
    refine wntL W wa me use sb (.slice mA R.length vmC) (fun k => (f k).1) emem L ⟨R.map (·.1), fun k => (f k).2, []⟩ (R.map (·.1)) vA vaC L.length rA vrC _ _ (.slice mA R.length vmC) u38 w5 (rfl : L.length = L.length) HRok.out.2.2.2 Hst3 HG0 Hd0 HE0 Hadr Hrec ?hlim ?hbase ?hb1 ?hb2 (fun a' w' hx => ?_)
    case hlim =>
      show _ = _
      have := HLb.out
      simp only [kl, List.length_map] at this
      rw [limF, this]
    case hbase =>
      show _ = _
      rw [roomF, HRc.out]
      omega
    case hb1 => omega
    case hb2 => omega
    obtain ⟨u29, hx⟩ := hx; obtain ⟨u37, hx⟩ := hx; obtain ⟨u42, hx⟩ := hx; obtain ⟨u43, hx⟩ := hx; obtain ⟨u44, hx⟩ := hx; obtain ⟨u45, hx⟩ := hx; obtain ⟨u46, hx⟩ := hx; obtain ⟨u47, hx⟩ := hx; obtain ⟨u48, hx⟩ := hx; obtain ⟨u49, hx⟩ := hx; obtain ⟨u51, hx⟩ := hx; obtain ⟨u52, hx⟩ := hx; obtain ⟨u200, hx⟩ := hx; obtain ⟨u201, hx⟩ := hx; obtain ⟨u202, hx⟩ := hx; obtain ⟨u203, hx⟩ := hx; obtain ⟨u204, hx⟩ := hx; obtain ⟨u205, hx⟩ := hx; obtain ⟨u206, hx⟩ := hx; obtain ⟨u207, hx⟩ := hx; obtain ⟨u208, hx⟩ := hx; obtain ⟨u209, hx⟩ := hx; obtain ⟨u210, hx⟩ := hx; obtain ⟨u211, hx⟩ := hx; obtain ⟨u212, hx⟩ := hx; obtain ⟨u213, hx⟩ := hx; obtain ⟨u214, hx⟩ := hx; obtain ⟨u215, hx⟩ := hx; obtain ⟨u216, hx⟩ := hx; obtain ⟨u217, hx⟩ := hx; obtain ⟨u218, hx⟩ := hx; obtain ⟨u219, hx⟩ := hx; obtain ⟨u220, hx⟩ := hx; obtain ⟨u221, hx⟩ := hx; obtain ⟨u222, hx⟩ := hx; obtain ⟨u223, hx⟩ := hx; obtain ⟨u224, hx⟩ := hx; obtain ⟨u225, hx⟩ := hx; obtain ⟨u226, hx⟩ := hx; obtain ⟨u227, hx⟩ := hx; obtain ⟨u228, hx⟩ := hx; obtain ⟨u229, hx⟩ := hx; obtain ⟨u230, hx⟩ := hx; obtain ⟨u231, hx⟩ := hx; obtain ⟨u232, hx⟩ := hx; obtain ⟨u233, hx⟩ := hx; obtain ⟨u234, hx⟩ := hx; obtain ⟨u235, hx⟩ := hx; obtain ⟨u236, hx⟩ := hx; obtain ⟨u237, hx⟩ := hx; obtain ⟨u238, hx⟩ := hx; obtain ⟨u239, hx⟩ := hx; obtain ⟨u240, hx⟩ := hx; obtain ⟨u241, hx⟩ := hx; obtain ⟨u242, hx⟩ := hx; obtain ⟨u243, hx⟩ := hx; obtain ⟨u244, hx⟩ := hx; obtain ⟨u245, hx⟩ := hx; obtain ⟨u246, hx⟩ := hx; obtain ⟨u247, hx⟩ := hx; obtain ⟨u248, hx⟩ := hx; obtain ⟨u249, hx⟩ := hx; obtain ⟨u250, hx⟩ := hx; obtain ⟨u251, hx⟩ := hx; obtain ⟨u252, hx⟩ := hx; obtain ⟨u253, hx⟩ := hx; obtain ⟨u254, hx⟩ := hx; obtain ⟨u255, hx⟩ := hx; obtain ⟨u256, hx⟩ := hx; obtain ⟨u257, hx⟩ := hx; obtain ⟨u258, hx⟩ := hx; obtain ⟨u259, hx⟩ := hx; obtain ⟨u260, hx⟩ := hx; obtain ⟨u261, hx⟩ := hx; obtain ⟨u262, hx⟩ := hx; obtain ⟨u263, hx⟩ := hx; obtain ⟨u264, hx⟩ := hx; obtain ⟨u265, hx⟩ := hx; obtain ⟨u266, hx⟩ := hx; obtain ⟨u267, hx⟩ := hx; obtain ⟨u268, hx⟩ := hx; obtain ⟨u269, hx⟩ := hx; obtain ⟨u270, hx⟩ := hx; obtain ⟨u271, hx⟩ := hx; obtain ⟨u272, hx⟩ := hx; obtain ⟨u273, hx⟩ := hx; obtain ⟨u274, hx⟩ := hx; obtain ⟨u275, hx⟩ := hx; obtain ⟨u276, hx⟩ := hx; obtain ⟨u277, hx⟩ := hx; obtain ⟨u278, hx⟩ := hx; obtain ⟨u279, hx⟩ := hx; obtain ⟨u280, hx⟩ := hx; obtain ⟨u281, hx⟩ := hx; obtain ⟨u282, hx⟩ := hx; obtain ⟨u283, hx⟩ := hx; obtain ⟨u284, hx⟩ := hx; obtain ⟨u285, hx⟩ := hx; obtain ⟨u286, hx⟩ := hx; obtain ⟨u287, hx⟩ := hx; obtain ⟨u288, hx⟩ := hx; obtain ⟨u289, hx⟩ := hx; obtain ⟨u290, hx⟩ := hx; obtain ⟨u291, hx⟩ := hx; obtain ⟨u292, hx⟩ := hx; obtain ⟨u293, hx⟩ := hx; obtain ⟨u294, hx⟩ := hx; obtain ⟨u295, hx⟩ := hx; obtain ⟨u296, hx⟩ := hx; obtain ⟨u297, hx⟩ := hx; obtain ⟨u298, hx⟩ := hx; obtain ⟨u299, hx⟩ := hx; obtain ⟨u300, hx⟩ := hx; obtain ⟨u301, hx⟩ := hx; obtain ⟨u302, hx⟩ := hx; obtain ⟨u303, hx⟩ := hx; obtain ⟨u304, hx⟩ := hx; obtain ⟨u305, hx⟩ := hx
    obtain ⟨hx, rfl⟩ := hx
    have Hend3 : Hid (WantEnd wa me use sb pb (lvF (fun k => (f k).1) emem me L (R.map (·.1)) (fun k => (f k).2)) (fun k => (f k).1) (.slice mA R.length vmC) u29 u37 u38 (.pointer none) w') := by
      have hs3 : lvF (fun k => (f k).1) emem me L (R.map (·.1)) (fun k => (f k).2) = Ls.run (fun k => (f k).1) (gone me) L.length emem ⟨R.map (·.1), fun k => (f k).2, []⟩ (kl L) := if_neg hleft'.out
      rw [hs3]
      exact want_end hleft'.out hx.out
    go_wp2
    all_goals
      repeat apply Exists.intro
      exact ⟨Hend3.out, rfl⟩
end Go.Proofs.Ybulkejoc

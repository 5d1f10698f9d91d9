/- The law's own packets (loop 3). -/
import Derived.Test.YbulkejocPack
import Derived.Test.YbulkejocGood
import Derived.Test.YbulkejocFin
namespace Go.Proofs.Ybulkejoc
open Go.ChangeShapes Go.WideShapes Go.ChangeAt Go.RowKit
set_option maxRecDepth 1000000
variable {s0 s1 s2 s3 s4 s5 s6 s7 s8 s9 s10 s11 s12 s13 s14 s15 s16 s17 s18 s19 s20 s21 s22 s23 s24 s25 s26 s27 s28 s29 s30 s31 s32 s33 s34 s35 s36 s37 s38 s39 s40 s41 s42 s43 s44 s45 s46 s47 s48 s49 s50 s51 s52 s53 s54 s55 s56 s57 s58 s59 s60 s61 s62 s63 s64 s65 s66 s67 s68 s69 s70 s71 s72 s73 s74 s75 s76 s77 s78 s79 s80 s81 s82 s83 s84 s85 s86 s87 s88 s89 s90 s91 s92 s93 s94 s95 s96 s97 s98 s99 s100 s101 s102 s103 s104 s105 s106 s107 s108 s109 s110 s111 s112 s113 s114 s115 s116 s117 s118 s119 s120 s121 s122 s123 s124 s125 s126 s127 s128 s129 s130 s131 s132 s133 s134 s135 s136 s137 s138 s139 s140 s141 s142 s143 s144 s145 s146 s147 s148 s149 s150 s151 s152 s153 s154 s155 s156 s157 s158 s159 s160 s161 s162 s163 s164 s165 s166 s167 s168 s169 s170 s171 s172 s173 s174 s175 s176 s177 s178 s179 s180 s181 s182 s183 s184 s185 s186 s187 s188 s189 s190 s191 s192 s193 s194 s195 s196 s197 s198 s199 s200 s201 s202 s203 s204 s205 s206 s207 s208 s209 s210 s211 s212 s213 s214 s215 s216 s217 s218 s219 s220 s221 s222 s223 s224 s225 s226 s227 s228 s229 s230 s231 s232 s233 s234 s235 s236 s237 s238 s239 s240 s241 s242 s243 s244 s245 s246 s247 s248 s249 s250 s251 s252 s253 s254 s255 s256 s257 s258 s259 s260 s261 s262 s263 s264 s265 s266 s267 s268 s269 s270 s271 s272 s273 s274 s275 s276 s277 s278 s279 s280 s281 s282 s283 s284 s285 s286 s287 s288 s289 s290 s291 s292 s293 s294 s295 s296 s297 s298 s299 s300 s301 s302 s303 s304 s305 s306 s307 s308 s309 s310 s311 s312 s313 s314 s315 s316 s317 s318 s319 s320 s321 s322 s323 s324 s325 s326 s327 s328 s329 s330 s331 s332 s333 s334 s335 s336 s337 s338 s339 s340 s341 s342 s343 s344 s345 s346 s347 s348 s349 s350 s351 s352 s353 s354 s355 s356 s357 s358 s359 s360 s361 s362 s363 s364 s365 s366 s367 s368 s369 s370 s371 s372 s373 s374 s375 s376 s377 s378 s379 s380 s381 s382 s383 s384 s385 s386 s387 s388 s389 s390 s391 s392 s393 s394 s395 s396 s397 s398 s399 s400 s401 s402 s403 s404 s405 s406 s407 s408 s409 s410 s411 s412 s413 s414 s415 s416 s417 s418 s419 s420 s421 s422 s423 s424 s425 s426 s427 s428 s429 s430 s431 s432 s433 s434 s435 s436 s437 s438 s439 s440 s441 s442 s443 s444 s445 s446 s447 s448 s449 s450 s451 s452 s453 s454 s455 s456 s457 s458 s459 s460 s461 s462 s463 s464 s465 s466 s467 s468 s469 s470 s471 s472 s473 s474 s475 s476 s477 s478 s479 s480 s481 s482 s483 s484 s485 s486 s487 s488 s489 s490 s491 s492 s493 s494 s495 s496 s497 s498 s499 s500 s501 s502 s503 s504 s505 s506 s507 s508 s509 s510 s511 s512 s513 s514 s515 s516 s517 s518 s519 s520 s521 s522 s523 s524 s525 s526 s527 s528 s529 s530 s531 s532 s533 s534 : Value}

theorem arow_of {w : World} {B n cap : Nat} {A : Option Addr} {M : List (Mb × Int)} (h : w.ownsRow B 56 5 (.slice A n cap) n (rcells M)) (hn : n = M.length) : ARow w A M := by
  intro i hi
  rcases MRow.of_own h hn with ⟨_, h2⟩ | ⟨gb, c, rest, h1, h2, _⟩
  · rw [h2] at hi; simp at hi
  · injection h1 with h1
    exact ⟨gb, rest, h1, h2⟩
theorem Srt.own {w w' : World} {B n cap : Nat} {A : Option Addr} {M M' : List (Mb × Int)} (h : Srt w A M M' w') (ho : w.ownsRow B 56 5 (.slice A n cap) n (rcells M)) (hn : n = M.length) (hl : M'.length = M.length) : w'.ownsRow B 56 5 (.slice A n cap) n (rcells M') := by
  rcases MRow.of_own ho hn with ⟨h1, h2⟩ | ⟨gb, c, rest, h1, h2, h3⟩
  · subst h2
    have : M' = [] := List.eq_nil_of_length_eq_zero (by simpa using hl)
    subst this
    rw [h1]
    exact ⟨ho.1, Or.inl ⟨rfl, by simpa using hn⟩⟩
  · injection h1 with h1
    exact h3 w' M' (by omega) (h.row gb rest h1 h2)

set_option maxHeartbeats 4000000 in
theorem wntL (W wa : World) (me : Mb) (use : Bool) (sb : Nat) (vm : Value) (mem emem : Nat → Mb) (L : List (Nat × Mb)) (q0 : Ls) (d0 : List Nat) (A : Option Addr) (acap nL : Nat) (RA : Option Addr) (rcap : Nat) (lim base : Int) (v29 v38 : Value) (w : World)
    (HL : Hid (L.length = nL)) (hnL : nL ≤ 512) (hW : Hid (WantAt W wa me use sb vm mem q0 v29 (.slice none 0 0) v38 w)) (hG : Hid (q0.Good d0 0)) (hd0 : Hid (d0.length ≤ 512 ∧ (∀ k ∈ d0, (mem k).Ok) ∧ W.heap.size ≤ wa.heap.size))
    (hE : Hid (∀ p ∈ L, emem p.1 = p.2 ∧ p.2.st < 4)) (hadr : Hid (wa.ownsRow 0 9 1 (.slice A nL acap) nL (L.map fun p => .string p.2.addr) ∧ ∀ b, (Value.slice A nL acap).ownBlock = some b → b ≠ sb ∧ vm.ownBlock ≠ some b))
    (hrec : Hid (wa.ownsRow 0 29 4 (.slice RA nL rcap) nL (mcells (L.map (·.2))) ∧ ∀ b, (Value.slice RA nL rcap).ownBlock = some b → b ≠ sb ∧ vm.ownBlock ≠ some b))
    (Hlim : Hid (lim = limF nL)) (Hbase : Hid (base = roomF (gone me))) (hb1 : -1125899906844000 ≤ base) (hb2 : base ≤ 1400) {Q : Exit → Act → World → Prop}
    (hexit : ∀ a' w', (∃ u29 u37 u42 u43 u44 u45 u46 u47 u48 u49 u51 u52 u200 u201 u202 u203 u204 u205 u206 u207 u208 u209 u210 u211 u212 u213 u214 u215 u216 u217 u218 u219 u220 u221 u222 u223 u224 u225 u226 u227 u228 u229 u230 u231 u232 u233 u234 u235 u236 u237 u238 u239 u240 u241 u242 u243 u244 u245 u246 u247 u248 u249 u250 u251 u252 u253 u254 u255 u256 u257 u258 u259 u260 u261 u262 u263 u264 u265 u266 u267 u268 u269 u270 u271 u272 u273 u274 u275 u276 u277 u278 u279 u280 u281 u282 u283 u284 u285 u286 u287 u288 u289 u290 u291 u292 u293 u294 u295 u296 u297 u298 u299 u300 u301 u302 u303 u304 u305 : Value, (Hid (WantAt W wa me use sb vm mem (Ls.run mem (gone me) nL emem q0 (kl L)) u29 u37 v38 w')) ∧ a' = ⟨List.toArray (s0 :: s1 :: s2 :: s3 :: s4 :: s5 :: s6 :: s7 :: s8 :: s9 :: s10 :: s11 :: s12 :: s13 :: s14 :: s15 :: s16 :: (.pointer (some ⟨sb, 0, none⟩)) :: s18 :: s19 :: s20 :: s21 :: (.slice RA nL rcap) :: s23 :: s24 :: s25 :: s26 :: s27 :: s28 :: u29 :: s30 :: s31 :: s32 :: s33 :: s34 :: s35 :: s36 :: u37 :: v38 :: s39 :: (.int .i64 lim) :: (.int .i64 base) :: u42 :: u43 :: u44 :: u45 :: u46 :: u47 :: u48 :: u49 :: s50 :: u51 :: u52 :: s53 :: s54 :: s55 :: s56 :: s57 :: s58 :: s59 :: s60 :: s61 :: s62 :: s63 :: s64 :: s65 :: s66 :: s67 :: s68 :: s69 :: s70 :: s71 :: s72 :: s73 :: s74 :: s75 :: s76 :: s77 :: s78 :: s79 :: s80 :: s81 :: s82 :: s83 :: s84 :: s85 :: s86 :: s87 :: s88 :: s89 :: s90 :: s91 :: s92 :: s93 :: s94 :: s95 :: s96 :: s97 :: s98 :: s99 :: s100 :: s101 :: s102 :: s103 :: s104 :: s105 :: s106 :: s107 :: s108 :: s109 :: s110 :: s111 :: s112 :: s113 :: s114 :: s115 :: s116 :: s117 :: s118 :: s119 :: s120 :: s121 :: s122 :: s123 :: s124 :: s125 :: s126 :: s127 :: s128 :: s129 :: s130 :: s131 :: s132 :: s133 :: s134 :: s135 :: s136 :: s137 :: s138 :: s139 :: s140 :: s141 :: s142 :: s143 :: s144 :: s145 :: s146 :: s147 :: s148 :: s149 :: s150 :: s151 :: s152 :: s153 :: s154 :: s155 :: s156 :: s157 :: s158 :: s159 :: s160 :: s161 :: s162 :: s163 :: s164 :: s165 :: s166 :: s167 :: s168 :: s169 :: s170 :: s171 :: s172 :: s173 :: s174 :: s175 :: s176 :: s177 :: s178 :: s179 :: s180 :: s181 :: s182 :: s183 :: s184 :: s185 :: s186 :: s187 :: s188 :: s189 :: s190 :: s191 :: s192 :: s193 :: s194 :: s195 :: s196 :: s197 :: (.slice A nL acap) :: (.int .i64 (nL : Int)) :: u200 :: u201 :: u202 :: u203 :: u204 :: u205 :: u206 :: u207 :: u208 :: u209 :: u210 :: u211 :: u212 :: u213 :: u214 :: u215 :: u216 :: u217 :: u218 :: u219 :: u220 :: u221 :: u222 :: u223 :: u224 :: u225 :: u226 :: u227 :: u228 :: u229 :: u230 :: u231 :: u232 :: u233 :: u234 :: u235 :: u236 :: u237 :: u238 :: u239 :: u240 :: u241 :: u242 :: u243 :: u244 :: u245 :: u246 :: u247 :: u248 :: u249 :: u250 :: u251 :: u252 :: u253 :: u254 :: u255 :: u256 :: u257 :: u258 :: u259 :: u260 :: u261 :: u262 :: u263 :: u264 :: u265 :: u266 :: u267 :: u268 :: u269 :: u270 :: u271 :: u272 :: u273 :: u274 :: u275 :: u276 :: u277 :: u278 :: u279 :: u280 :: u281 :: u282 :: u283 :: u284 :: u285 :: u286 :: u287 :: u288 :: u289 :: u290 :: u291 :: u292 :: u293 :: u294 :: u295 :: u296 :: u297 :: u298 :: u299 :: u300 :: u301 :: u302 :: u303 :: u304 :: u305 :: s306 :: s307 :: s308 :: s309 :: s310 :: s311 :: s312 :: s313 :: s314 :: s315 :: s316 :: s317 :: s318 :: s319 :: s320 :: s321 :: s322 :: s323 :: s324 :: s325 :: s326 :: s327 :: s328 :: s329 :: s330 :: s331 :: s332 :: s333 :: s334 :: s335 :: s336 :: s337 :: s338 :: s339 :: s340 :: s341 :: s342 :: s343 :: s344 :: s345 :: s346 :: s347 :: s348 :: s349 :: s350 :: s351 :: s352 :: s353 :: s354 :: s355 :: s356 :: s357 :: s358 :: s359 :: s360 :: s361 :: s362 :: s363 :: s364 :: s365 :: s366 :: s367 :: s368 :: s369 :: s370 :: s371 :: s372 :: s373 :: s374 :: s375 :: s376 :: s377 :: s378 :: s379 :: s380 :: s381 :: s382 :: s383 :: s384 :: s385 :: s386 :: s387 :: s388 :: s389 :: s390 :: s391 :: s392 :: s393 :: s394 :: s395 :: s396 :: s397 :: s398 :: s399 :: s400 :: s401 :: s402 :: s403 :: s404 :: s405 :: s406 :: s407 :: s408 :: s409 :: s410 :: s411 :: s412 :: s413 :: s414 :: s415 :: s416 :: s417 :: s418 :: s419 :: s420 :: s421 :: s422 :: s423 :: s424 :: s425 :: s426 :: s427 :: s428 :: s429 :: s430 :: s431 :: s432 :: s433 :: s434 :: s435 :: s436 :: s437 :: s438 :: s439 :: s440 :: s441 :: s442 :: s443 :: s444 :: s445 :: s446 :: s447 :: s448 :: s449 :: s450 :: s451 :: s452 :: s453 :: s454 :: s455 :: s456 :: s457 :: s458 :: s459 :: s460 :: s461 :: s462 :: s463 :: s464 :: s465 :: s466 :: s467 :: s468 :: s469 :: s470 :: s471 :: s472 :: s473 :: s474 :: s475 :: s476 :: s477 :: s478 :: s479 :: s480 :: s481 :: s482 :: s483 :: s484 :: s485 :: s486 :: s487 :: s488 :: s489 :: s490 :: s491 :: s492 :: s493 :: s494 :: s495 :: s496 :: s497 :: s498 :: s499 :: s500 :: s501 :: s502 :: s503 :: s504 :: s505 :: s506 :: s507 :: s508 :: s509 :: s510 :: s511 :: s512 :: s513 :: s514 :: s515 :: s516 :: s517 :: s518 :: s519 :: s520 :: s521 :: s522 :: s523 :: s524 :: s525 :: s526 :: s527 :: s528 :: s529 :: s530 :: s531 :: s532 :: s533 :: s534 :: []), []⟩) → Q (.exit 4) a' w') :
    Code.wp Yba.prog ((Yba.f3.body.bind (blk 4)).getD .skip) Q ⟨List.toArray (s0 :: s1 :: s2 :: s3 :: s4 :: s5 :: s6 :: s7 :: s8 :: s9 :: s10 :: s11 :: s12 :: s13 :: s14 :: s15 :: s16 :: (.pointer (some ⟨sb, 0, none⟩)) :: s18 :: s19 :: s20 :: s21 :: (.slice RA nL rcap) :: s23 :: s24 :: s25 :: s26 :: s27 :: s28 :: v29 :: s30 :: s31 :: s32 :: s33 :: s34 :: s35 :: s36 :: (.slice none 0 0) :: v38 :: s39 :: (.int .i64 lim) :: (.int .i64 base) :: s42 :: s43 :: s44 :: s45 :: s46 :: s47 :: s48 :: s49 :: s50 :: s51 :: s52 :: s53 :: s54 :: s55 :: s56 :: s57 :: s58 :: s59 :: s60 :: s61 :: s62 :: s63 :: s64 :: s65 :: s66 :: s67 :: s68 :: s69 :: s70 :: s71 :: s72 :: s73 :: s74 :: s75 :: s76 :: s77 :: s78 :: s79 :: s80 :: s81 :: s82 :: s83 :: s84 :: s85 :: s86 :: s87 :: s88 :: s89 :: s90 :: s91 :: s92 :: s93 :: s94 :: s95 :: s96 :: s97 :: s98 :: s99 :: s100 :: s101 :: s102 :: s103 :: s104 :: s105 :: s106 :: s107 :: s108 :: s109 :: s110 :: s111 :: s112 :: s113 :: s114 :: s115 :: s116 :: s117 :: s118 :: s119 :: s120 :: s121 :: s122 :: s123 :: s124 :: s125 :: s126 :: s127 :: s128 :: s129 :: s130 :: s131 :: s132 :: s133 :: s134 :: s135 :: s136 :: s137 :: s138 :: s139 :: s140 :: s141 :: s142 :: s143 :: s144 :: s145 :: s146 :: s147 :: s148 :: s149 :: s150 :: s151 :: s152 :: s153 :: s154 :: s155 :: s156 :: s157 :: s158 :: s159 :: s160 :: s161 :: s162 :: s163 :: s164 :: s165 :: s166 :: s167 :: s168 :: s169 :: s170 :: s171 :: s172 :: s173 :: s174 :: s175 :: s176 :: s177 :: s178 :: s179 :: s180 :: s181 :: s182 :: s183 :: s184 :: s185 :: s186 :: s187 :: s188 :: s189 :: s190 :: s191 :: s192 :: s193 :: s194 :: s195 :: s196 :: s197 :: (.slice A nL acap) :: (.int .i64 (nL : Int)) :: (.int .i64 0) :: s201 :: s202 :: s203 :: s204 :: s205 :: s206 :: s207 :: s208 :: s209 :: s210 :: s211 :: s212 :: s213 :: s214 :: s215 :: s216 :: s217 :: s218 :: s219 :: s220 :: s221 :: s222 :: s223 :: s224 :: s225 :: s226 :: s227 :: s228 :: s229 :: s230 :: s231 :: s232 :: s233 :: s234 :: s235 :: s236 :: s237 :: s238 :: s239 :: s240 :: s241 :: s242 :: s243 :: s244 :: s245 :: s246 :: s247 :: s248 :: s249 :: s250 :: s251 :: s252 :: s253 :: s254 :: s255 :: s256 :: s257 :: s258 :: s259 :: s260 :: s261 :: s262 :: s263 :: s264 :: s265 :: s266 :: s267 :: s268 :: s269 :: s270 :: s271 :: s272 :: s273 :: s274 :: s275 :: s276 :: s277 :: s278 :: s279 :: s280 :: s281 :: s282 :: s283 :: s284 :: s285 :: s286 :: s287 :: s288 :: s289 :: s290 :: s291 :: s292 :: s293 :: s294 :: s295 :: s296 :: s297 :: s298 :: s299 :: s300 :: s301 :: s302 :: s303 :: s304 :: s305 :: s306 :: s307 :: s308 :: s309 :: s310 :: s311 :: s312 :: s313 :: s314 :: s315 :: s316 :: s317 :: s318 :: s319 :: s320 :: s321 :: s322 :: s323 :: s324 :: s325 :: s326 :: s327 :: s328 :: s329 :: s330 :: s331 :: s332 :: s333 :: s334 :: s335 :: s336 :: s337 :: s338 :: s339 :: s340 :: s341 :: s342 :: s343 :: s344 :: s345 :: s346 :: s347 :: s348 :: s349 :: s350 :: s351 :: s352 :: s353 :: s354 :: s355 :: s356 :: s357 :: s358 :: s359 :: s360 :: s361 :: s362 :: s363 :: s364 :: s365 :: s366 :: s367 :: s368 :: s369 :: s370 :: s371 :: s372 :: s373 :: s374 :: s375 :: s376 :: s377 :: s378 :: s379 :: s380 :: s381 :: s382 :: s383 :: s384 :: s385 :: s386 :: s387 :: s388 :: s389 :: s390 :: s391 :: s392 :: s393 :: s394 :: s395 :: s396 :: s397 :: s398 :: s399 :: s400 :: s401 :: s402 :: s403 :: s404 :: s405 :: s406 :: s407 :: s408 :: s409 :: s410 :: s411 :: s412 :: s413 :: s414 :: s415 :: s416 :: s417 :: s418 :: s419 :: s420 :: s421 :: s422 :: s423 :: s424 :: s425 :: s426 :: s427 :: s428 :: s429 :: s430 :: s431 :: s432 :: s433 :: s434 :: s435 :: s436 :: s437 :: s438 :: s439 :: s440 :: s441 :: s442 :: s443 :: s444 :: s445 :: s446 :: s447 :: s448 :: s449 :: s450 :: s451 :: s452 :: s453 :: s454 :: s455 :: s456 :: s457 :: s458 :: s459 :: s460 :: s461 :: s462 :: s463 :: s464 :: s465 :: s466 :: s467 :: s468 :: s469 :: s470 :: s471 :: s472 :: s473 :: s474 :: s475 :: s476 :: s477 :: s478 :: s479 :: s480 :: s481 :: s482 :: s483 :: s484 :: s485 :: s486 :: s487 :: s488 :: s489 :: s490 :: s491 :: s492 :: s493 :: s494 :: s495 :: s496 :: s497 :: s498 :: s499 :: s500 :: s501 :: s502 :: s503 :: s504 :: s505 :: s506 :: s507 :: s508 :: s509 :: s510 :: s511 :: s512 :: s513 :: s514 :: s515 :: s516 :: s517 :: s518 :: s519 :: s520 :: s521 :: s522 :: s523 :: s524 :: s525 :: s526 :: s527 :: s528 :: s529 :: s530 :: s531 :: s532 :: s533 :: s534 :: []), []⟩ w := by
  conv => arg 2; whnf
  go_loopw [29, 37, 200] (fun v29 v37 v200 wr => ∃ j : Nat, j ≤ nL ∧ v200 = .int .i64 (j : Int) ∧ Hid (WantAt W wa me use sb vm mem (Ls.run mem (gone me) nL emem q0 ((kl L).take j)) v29 v37 v38 wr)) (fun _ _ v200 _ => nL - (intOf v200).toNat)
  case atStart => exact ⟨0, Nat.zero_le _, rfl, hW.out⟩
  case round =>
    obtain ⟨j, hj, rfl, H⟩ := hrel
    by_cases hlt : j < nL
    · have hltI : (j : Int) < (nL : Int) := by omega
      have hjL : j < L.length := by have := HL.out; omega
      obtain ⟨p, Hp⟩ : ∃ p, Hid (L[j]? = some p) := ⟨L[j], List.getElem?_eq_getElem hjL⟩
      have hLp : L[j] = p := by have := Hp.out; rw [List.getElem?_eq_getElem hjL] at this; exact Option.some.inj this
      have hpm : p ∈ L := List.mem_of_getElem? Hp.out
      have Hnext : Hid (Ls.run mem (gone me) nL emem q0 ((kl L).take (j + 1)) = if p.2.st ≤ 1 then (Ls.run mem (gone me) nL emem q0 ((kl L).take j)).send mem (gone me) nL p.2.addr else Ls.run mem (gone me) nL emem q0 ((kl L).take j)) := by
        show _ = _
        have hk : j < (kl L).length := by simpa [kl] using hjL
        have hkj : (kl L)[j] = (p.2.addr, p.1) := by simp [kl, hLp]
        rw [List.take_succ_eq_append_getElem hk, Ls.run_snoc, hkj, (hE.out p hpm).1]
      have Hgood : Hid ((Ls.run mem (gone me) nL emem q0 ((kl L).take j)).Good d0 j) := by
        have := Ls.Good.run mem (gone me) nL emem hG.out ((kl L).take j)
        rw [List.length_take, Nat.min_eq_left (by simp [kl]; omega)] at this
        exact this
      obtain ⟨s, Hs⟩ : ∃ s, Hid (Ls.run mem (gone me) nL emem q0 ((kl L).take j) = s) := ⟨_, rfl⟩
      rw [Hs.out] at H Hnext Hgood
      have hk := H.out.kept
      have a1 := own_kept hadr.out.1 hk (fun b hb => by rintro (e | e); exact (hadr.out.2 b hb).1 e; exact (hadr.out.2 b hb).2 e)
      have a2 := own_kept hrec.out.1 hk (fun b hb => by rintro (e | e); exact (hrec.out.2 b hb).1 e; exact (hrec.out.2 b hb).2 e)
      obtain ⟨ga, ca, e1, _, a3⟩ := (own_cells a1).resolve_left (by rintro ⟨_, e⟩; omega)
      obtain ⟨gr, cr, e2, _, a4⟩ := (own_cells a2).resolve_left (by rintro ⟨_, e⟩; omega)
      simp only [Value.slice.injEq, true_and] at e1 e2
      obtain ⟨rfl, rfl⟩ := e1
      obtain ⟨rfl, rfl⟩ := e2
      have c43 : wr.cell? ⟨ga, j, none⟩ = some (.string p.2.addr) := by
        rw [a3 j (by omega)]
        simp [hjL, hLp]
      have hst : wr.cell? ⟨gr, j * 4 + 2, none⟩ = some (.int .u8 p.2.st) := by
        rw [a4 (j * 4 + 2) (by omega), mcells_at _ j 2 (by simpa using hjL) (by omega)]
        simp [hLp, Mb.cells]
      have hst4 := (hE.out p hpm).2
      clear a1 a2 a3 a4 hk hLp hpm hjL
      by_cases hgo : p.2.st ≤ 1
      · have hgoI : ¬ (p.2.st : Int) > 1 := by omega
        have HN : Hid (Ls.run mem (gone me) nL emem q0 ((kl L).take (j + 1)) = s.send mem (gone me) nL p.2.addr) := by
          have := Hnext.out
          rw [if_pos hgo] at this
          exact this
        obtain ⟨wo, rfl⟩ : ∃ wo, wo = wr := ⟨_, rfl⟩
        obtain ⟨MA, mcap, rfl⟩ := own_form H.out.model
        have Hrow : Hid (ARow wo MA (s.d.map fun k => (mem k, s.key k))) := arow_of H.out.model (by simp)
        have HlM : Hid ((s.d.map fun k => (mem k, s.key k)).length = s.d.length) := by show _ = _; simp
        have hnd : s.d.length ≤ 512 := by have := Hgood.out.len; have := hd0.out.1; omega
        obtain ⟨nd, Hnd⟩ : ∃ nd, Hid (s.d.length = nd) := ⟨_, rfl⟩
        rw [Hnd.out] at hnd HlM
        rw [Hnd.out]
        go_wp2
        refine srtB MA nd mcap (s.d.map fun k => (mem k, s.key k)) _ HlM Hrow (by omega) (fun a' w1 hx => ?_)
        obtain ⟨u45, hx⟩ := hx; obtain ⟨u46, hx⟩ := hx; obtain ⟨u47, hx⟩ := hx; obtain ⟨u212, hx⟩ := hx; obtain ⟨u213, hx⟩ := hx; obtain ⟨u214, hx⟩ := hx; obtain ⟨u215, hx⟩ := hx; obtain ⟨u216, hx⟩ := hx; obtain ⟨u217, hx⟩ := hx; obtain ⟨u218, hx⟩ := hx; obtain ⟨u219, hx⟩ := hx; obtain ⟨u220, hx⟩ := hx; obtain ⟨u221, hx⟩ := hx; obtain ⟨u222, hx⟩ := hx; obtain ⟨u223, hx⟩ := hx; obtain ⟨u224, hx⟩ := hx; obtain ⟨u225, hx⟩ := hx; obtain ⟨u226, hx⟩ := hx; obtain ⟨u227, hx⟩ := hx; obtain ⟨u228, hx⟩ := hx; obtain ⟨u229, hx⟩ := hx; obtain ⟨u230, hx⟩ := hx; obtain ⟨u231, hx⟩ := hx; obtain ⟨u232, hx⟩ := hx; obtain ⟨u233, hx⟩ := hx; obtain ⟨u234, hx⟩ := hx; obtain ⟨u235, hx⟩ := hx; obtain ⟨u236, hx⟩ := hx; obtain ⟨u237, hx⟩ := hx; obtain ⟨u238, hx⟩ := hx; obtain ⟨u239, hx⟩ := hx; obtain ⟨u240, hx⟩ := hx; obtain ⟨u241, hx⟩ := hx; obtain ⟨u242, hx⟩ := hx; obtain ⟨u243, hx⟩ := hx; obtain ⟨u244, hx⟩ := hx; obtain ⟨u245, hx⟩ := hx; obtain ⟨u246, hx⟩ := hx; obtain ⟨u247, hx⟩ := hx; obtain ⟨u248, hx⟩ := hx; obtain ⟨u249, hx⟩ := hx; obtain ⟨u250, hx⟩ := hx; obtain ⟨u251, hx⟩ := hx; obtain ⟨u252, hx⟩ := hx; obtain ⟨u253, hx⟩ := hx
        obtain ⟨hx, rfl⟩ := hx
        have HlI : Hid ((isortV (s.d.map fun k => (mem k, s.key k))).length = nd) := by
          show _ = _
          rw [isortV_len]
          exact HlM.out
        have HrI : Hid (ARow w1 MA (isortV (s.d.map fun k => (mem k, s.key k)))) := by
          have h1 := hx.out.own (n := s.d.length) (cap := mcap) H.out.model (by simp) (isortV_len _)
          exact arow_of h1 (by rw [isortV_len]; simp)
        have HoI : Hid (∀ r ∈ isortV (s.d.map fun k => (mem k, s.key k)), r.1.Ok ∧ 0 ≤ r.2 ∧ r.2 ≤ 1000000) := by
          intro r hr
          rw [isortV_map] at hr
          obtain ⟨k, hk, rfl⟩ := List.mem_map.1 hr
          have hkd := (isort_perm s.key (idx_rising Hgood.out.nodup)).mem_iff.1 hk
          have h1 := Hgood.out.lo k hkd
          have h2 := Hgood.out.told k hkd
          exact ⟨hd0.out.2.1 k (Hgood.out.sub k hkd), h1, by show s.key k ≤ 1000000; omega⟩
        have Hx : Hid (Kept (fun b => (Value.slice MA s.d.length mcap).ownBlock = some b) wo w1) := by
          refine hx.out.kept.mono fun b hb => ?_
          cases MA with
          | none => simp [Value.ownBlock] at hb
          | some a => simpa [Value.ownBlock] using hb
        clear hx
        go_wp2
        refine packL MA nd mcap (isortV (s.d.map fun k => (mem k, s.key k))) lim base _ HlI HrI HoI (by omega) hb1 hb2 (fun a' w2 hx => ?_)
        obtain ⟨u44, hx⟩ := hx; obtain ⟨u48, hx⟩ := hx; obtain ⟨u49, hx⟩ := hx; obtain ⟨u51, hx⟩ := hx; obtain ⟨u52, hx⟩ := hx; obtain ⟨u256, hx⟩ := hx; obtain ⟨u257, hx⟩ := hx; obtain ⟨u258, hx⟩ := hx; obtain ⟨u259, hx⟩ := hx; obtain ⟨u260, hx⟩ := hx; obtain ⟨u261, hx⟩ := hx; obtain ⟨u262, hx⟩ := hx; obtain ⟨u263, hx⟩ := hx; obtain ⟨u264, hx⟩ := hx; obtain ⟨u265, hx⟩ := hx; obtain ⟨u266, hx⟩ := hx; obtain ⟨u267, hx⟩ := hx; obtain ⟨u268, hx⟩ := hx; obtain ⟨u269, hx⟩ := hx; obtain ⟨u270, hx⟩ := hx; obtain ⟨u271, hx⟩ := hx; obtain ⟨u272, hx⟩ := hx; obtain ⟨u273, hx⟩ := hx; obtain ⟨u274, hx⟩ := hx; obtain ⟨u275, hx⟩ := hx; obtain ⟨u276, hx⟩ := hx; obtain ⟨u277, hx⟩ := hx; obtain ⟨u278, hx⟩ := hx; obtain ⟨u279, hx⟩ := hx; obtain ⟨u280, hx⟩ := hx; obtain ⟨u281, hx⟩ := hx; obtain ⟨u282, hx⟩ := hx; obtain ⟨u283, hx⟩ := hx; obtain ⟨u284, hx⟩ := hx; obtain ⟨u285, hx⟩ := hx; obtain ⟨u286, hx⟩ := hx; obtain ⟨u287, hx⟩ := hx; obtain ⟨u288, hx⟩ := hx; obtain ⟨u289, hx⟩ := hx; obtain ⟨u290, hx⟩ := hx; obtain ⟨u291, hx⟩ := hx; obtain ⟨u292, hx⟩ := hx; obtain ⟨u293, hx⟩ := hx; obtain ⟨u294, hx⟩ := hx; obtain ⟨u295, hx⟩ := hx
        obtain ⟨hx, rfl⟩ := hx
        obtain ⟨NA, nn, ncap, rfl⟩ : ∃ NA nn ncap, u48 = .slice NA nn ncap := by
          obtain ⟨NA, ncap, h⟩ := own_form hx.out.news
          exact ⟨NA, _, ncap, h⟩
        obtain ⟨Hsb, g, gcap, w3, hr3, HW3⟩ : Hid _ ∧ ∃ g gcap w3, _ ∧ Hid _ := H.out.send (by have := Hgood.out.many; omega) hd0.out.2.2 Hx.out hx.out.kept nL p.2.addr (v48 := .slice NA nn ncap) (v49 := u49) (by
            have h1 := hx.out.news
            rw [Hlim.out, Hbase.out, (Ls.pv Hgood.out mem (gone me) nL).2] at h1
            exact h1) (by
            have h1 := hx.out.row
            rw [Hlim.out, Hbase.out, (Ls.pv Hgood.out mem (gone me) nL).2] at h1
            exact h1)
        have b0 := cell_of_block Hsb.out 0
        have b1 := cell_of_block Hsb.out 1
        have b2 := cell_of_block Hsb.out 2
        have b3 := cell_of_block Hsb.out 3
        simp only [List.getElem?_toArray, List.getElem?_cons_zero, List.getElem?_cons_succ] at b0 b1 b2 b3
        rw [← HN.out] at HW3
        clear hx
        go_wp2_with (at_builtin; refine wpList_append_eq (by rfl) _ _ 68 (by rfl) u37 (.slice (some ⟨w2.heap.size, 0, none⟩) 1 1) _ _ (by rfl) (by rfl) hr3 ?_)
        go_roundw
        case rel => exact ⟨j + 1, by omega, by go_num, HW3.out⟩
        case measure => simp [intOf]; omega
      · have hgoI : (p.2.st : Int) > 1 := by omega
        have HN : Hid (WantAt W wa me use sb vm mem (Ls.run mem (gone me) nL emem q0 ((kl L).take (j + 1))) u29 u37 v38 wr) := by
          rw [Hnext.out, if_neg hgo]
          exact H.out
        go_wp2
        go_roundw
        case rel => exact ⟨j + 1, by omega, by go_num, HN.out⟩
        case measure => simp [intOf]; omega
    · have hltI : ¬ (j : Int) < (nL : Int) := by omega
      have Hend : Hid (WantAt W wa me use sb vm mem (Ls.run mem (gone me) nL emem q0 (kl L)) u29 u37 v38 wr) := by
        have := H.out
        rw [List.take_of_length_le (by simp [kl]; have := HL.out; omega)] at this
        exact this
      go_wp2
      all_goals
        repeat apply Exists.intro
        exact ⟨Hend.out, rfl⟩
end Go.Proofs.Ybulkejoc

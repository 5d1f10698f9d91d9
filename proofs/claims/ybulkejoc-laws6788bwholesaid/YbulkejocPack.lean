/- The law's packing (loop 6). -/
import Derived.Test.YbulkejocSrtB
import Derived.WideMake
import Derived.Deep.Cut
import Derived.Deep.CutRange
import Derived.Deep.QuietTactic
namespace Go.Proofs.Ybulkejoc
open Go.ChangeShapes Go.WideShapes Go.ChangeAt Go.RowKit
set_option maxRecDepth 1000000
variable {s0 s1 s2 s3 s4 s5 s6 s7 s8 s9 s10 s11 s12 s13 s14 s15 s16 s17 s18 s19 s20 s21 s22 s23 s24 s25 s26 s27 s28 s29 s30 s31 s32 s33 s34 s35 s36 s37 s38 s39 s40 s41 s42 s43 s44 s45 s46 s47 s48 s49 s50 s51 s52 s53 s54 s55 s56 s57 s58 s59 s60 s61 s62 s63 s64 s65 s66 s67 s68 s69 s70 s71 s72 s73 s74 s75 s76 s77 s78 s79 s80 s81 s82 s83 s84 s85 s86 s87 s88 s89 s90 s91 s92 s93 s94 s95 s96 s97 s98 s99 s100 s101 s102 s103 s104 s105 s106 s107 s108 s109 s110 s111 s112 s113 s114 s115 s116 s117 s118 s119 s120 s121 s122 s123 s124 s125 s126 s127 s128 s129 s130 s131 s132 s133 s134 s135 s136 s137 s138 s139 s140 s141 s142 s143 s144 s145 s146 s147 s148 s149 s150 s151 s152 s153 s154 s155 s156 s157 s158 s159 s160 s161 s162 s163 s164 s165 s166 s167 s168 s169 s170 s171 s172 s173 s174 s175 s176 s177 s178 s179 s180 s181 s182 s183 s184 s185 s186 s187 s188 s189 s190 s191 s192 s193 s194 s195 s196 s197 s198 s199 s200 s201 s202 s203 s204 s205 s206 s207 s208 s209 s210 s211 s212 s213 s214 s215 s216 s217 s218 s219 s220 s221 s222 s223 s224 s225 s226 s227 s228 s229 s230 s231 s232 s233 s234 s235 s236 s237 s238 s239 s240 s241 s242 s243 s244 s245 s246 s247 s248 s249 s250 s251 s252 s253 s254 s255 s256 s257 s258 s259 s260 s261 s262 s263 s264 s265 s266 s267 s268 s269 s270 s271 s272 s273 s274 s275 s276 s277 s278 s279 s280 s281 s282 s283 s284 s285 s286 s287 s288 s289 s290 s291 s292 s293 s294 s295 s296 s297 s298 s299 s300 s301 s302 s303 s304 s305 s306 s307 s308 s309 s310 s311 s312 s313 s314 s315 s316 s317 s318 s319 s320 s321 s322 s323 s324 s325 s326 s327 s328 s329 s330 s331 s332 s333 s334 s335 s336 s337 s338 s339 s340 s341 s342 s343 s344 s345 s346 s347 s348 s349 s350 s351 s352 s353 s354 s355 s356 s357 s358 s359 s360 s361 s362 s363 s364 s365 s366 s367 s368 s369 s370 s371 s372 s373 s374 s375 s376 s377 s378 s379 s380 s381 s382 s383 s384 s385 s386 s387 s388 s389 s390 s391 s392 s393 s394 s395 s396 s397 s398 s399 s400 s401 s402 s403 s404 s405 s406 s407 s408 s409 s410 s411 s412 s413 s414 s415 s416 s417 s418 s419 s420 s421 s422 s423 s424 s425 s426 s427 s428 s429 s430 s431 s432 s433 s434 s435 s436 s437 s438 s439 s440 s441 s442 s443 s444 s445 s446 s447 s448 s449 s450 s451 s452 s453 s454 s455 s456 s457 s458 s459 s460 s461 s462 s463 s464 s465 s466 s467 s468 s469 s470 s471 s472 s473 s474 s475 s476 s477 s478 s479 s480 s481 s482 s483 s484 s485 s486 s487 s488 s489 s490 s491 s492 s493 s494 s495 s496 s497 s498 s499 s500 s501 s502 s503 s504 s505 s506 s507 s508 s509 s510 s511 s512 s513 s514 s515 s516 s517 s518 s519 s520 s521 s522 s523 s524 s525 s526 s527 s528 s529 s530 s531 s532 s533 s534 : Value}

/-- The memory between two rounds of the packing. -/
structure PkAt (w : World) (p : Pv) (v48 v49 : Value) (wr : World) : Prop where
  news : wr.ownsRow w.heap.size 29 4 v48 p.news.length (mcells p.news)
  row : wr.ownsRow w.heap.size 56 5 v49 p.kept.length (rcells p.kept)
  kept : Kept (fun _ => False) w wr

/-- The memory in the middle of a round; rb: the block of r. -/
structure PkMid (w : World) (rb : Nat) (news : List Mb) (kept : List (Mb × Int)) (r : Mb × Int) (v48 v49 : Value) (wr : World) : Prop where
  news : wr.ownsRow w.heap.size 29 4 v48 news.length (mcells news)
  row : wr.ownsRow w.heap.size 56 5 v49 kept.length (rcells kept)
  kept : Kept (fun _ => False) w wr
  r : wr.heap[rb]? = some (.cells (c5 r).toArray 56 (0, 0))
  rb' : w.heap.size ≤ rb
  b48 : v48.ownBlock ≠ some rb
  b49 : v49.ownBlock ≠ some rb

theorem PkMid.below {w wr w' : World} {rb : Nat} {news : List Mb} {kept : List (Mb × Int)} {r : Mb × Int} {v48 v49 : Value} (h : PkMid w rb news kept r v48 v49 wr) (hB : Below wr.heap.size wr w') : PkMid w rb news kept r v48 v49 w' := by
  have k : Kept (fun _ => False) wr w' := Kept.of_below hB (Nat.le_refl _)
  exact ⟨own_kept h.news k (fun _ _ e => e), own_kept h.row k (fun _ _ e => e), h.kept.trans k (fun _ _ e => e), (hB.block rb (lt_of_heap h.r)).trans h.r, h.rb', h.b48, h.b49⟩
theorem PkAt.enter {w wr : World} {p : Pv} {v48 v49 : Value} (h : PkAt w p v48 v49 wr) (r : Mb × Int) : PkMid w wr.heap.size p.news p.kept r v48 v49 (wr.alloc (.cells #[.string r.1.addr, .int .u64 r.1.tok, .int .u8 r.1.st, .int .u64 r.1.inc, .int .i64 r.2] 56)) := by
  have k : Kept (fun _ => False) wr (wr.alloc (.cells #[.string r.1.addr, .int .u64 r.1.tok, .int .u8 r.1.st, .int .u64 r.1.inc, .int .i64 r.2] 56)) := (Kept.refl _ _).alloc _
  exact ⟨own_kept h.news k (fun _ _ e => e), own_kept h.row k (fun _ _ e => e), h.kept.trans k (fun _ _ e => e), heap_alloc_new _ _, h.kept.size, fun e => by have := (ownsRow_lt h.news e).2; omega, fun e => by have := (ownsRow_lt h.row e).2; omega⟩
theorem PkMid.cells {w wr : World} {rb : Nat} {news : List Mb} {kept : List (Mb × Int)} {r : Mb × Int} {v48 v49 : Value} (h : PkMid w rb news kept r v48 v49 wr) : wr.cell? ⟨rb, 0, none⟩ = some (.string r.1.addr) ∧ wr.cell? ⟨rb, 1, none⟩ = some (.int .u64 r.1.tok) ∧ wr.cell? ⟨rb, 2, none⟩ = some (.int .u8 r.1.st) ∧ wr.cell? ⟨rb, 3, none⟩ = some (.int .u64 r.1.inc) ∧ wr.cell? ⟨rb, 4, none⟩ = some (.int .i64 r.2) ∧ wr.frozen? ⟨rb, 4, none⟩ = false := by
  refine ⟨?_, ?_, ?_, ?_, ?_, frozen_of_block h.r 4⟩ <;> (rw [cell_of_block h.r]; rfl)
/-- The rumour is told. -/
theorem PkMid.tell {w wr : World} {rb : Nat} {news : List Mb} {kept : List (Mb × Int)} {r : Mb × Int} {v48 v49 : Value} (h : PkMid w rb news kept r v48 v49 wr) (hn : news.length ≤ 100000) :
    ∃ g cap w3, (Builtin.append_ #[30, 30] 30 #[v48, .slice (some ⟨wr.heap.size, 0, none⟩) 1 1]).run Yba.prog (wr.alloc (.cells #[.string r.1.addr, .int .u64 r.1.tok, .int .u8 r.1.st, .int .u64 r.1.inc] 29)) = .ok (.slice (some ⟨g, 0, none⟩) (news.length + 1) cap) w3 ∧
      PkMid w rb (news ++ [r.1]) kept r (.slice (some ⟨g, 0, none⟩) (news.length + 1) cap) v49 w3 ∧
      PkMid w rb (news ++ [r.1]) kept (r.1, r.2 + 1) (.slice (some ⟨g, 0, none⟩) (news.length + 1) cap) v49 (w3.setCell ⟨rb, 4, none⟩ (.int .i64 (r.2 + 1))) := by
  obtain ⟨g, cap, w3, hr, ho, hk⟩ := append_one (t := 30) Yba.underlying30 info29 rfl (by omega) h.news (by have := h.kept.size; omega) #[.string r.1.addr, .int .u64 r.1.tok, .int .u8 r.1.st, .int .u64 r.1.inc] rfl (by intro u hu; simp at hu; rcases hu with rfl | rfl | rfl | rfl <;> rfl) hn (by omega)
  have hr3 : w3.heap[rb]? = some (.cells (c5 r).toArray 56 (0, 0)) := (hk.block rb (lt_of_heap h.r) h.b48).trans h.r
  have o49 := own_kept h.row hk (fun b hb => own_ne h.row h.news (by decide) hb)
  have hmc : mcells (news ++ [r.1]) = mcells news ++ [.string r.1.addr, .int .u64 r.1.tok, .int .u8 r.1.st, .int .u64 r.1.inc] := by simp [mcells, Mb.cells]
  have m1 : PkMid w rb (news ++ [r.1]) kept r (.slice (some ⟨g, 0, none⟩) (news.length + 1) cap) v49 w3 := by
    refine ⟨?_, o49, h.kept.trans hk (fun b hb hv => by have := (ownsRow_lt h.news hv).1; omega), hr3, h.rb', obj_own_ne hr3 ho (by decide), h.b49⟩
    rw [hmc]
    simpa using ho
  refine ⟨g, cap, w3, hr, m1, ?_⟩
  have ks : Kept (fun b => b = rb) w3 (w3.setCell ⟨rb, 4, none⟩ (.int .i64 (r.2 + 1))) := Kept.setCell (S := fun b => b = rb) (Kept.refl _ _) (fun _ => rfl) _
  refine ⟨own_kept m1.news ks (fun b hb e => m1.b48 (e ▸ hb)), own_kept o49 ks (fun b hb e => h.b49 (e ▸ hb)), m1.kept.trans ks (fun b hb e => by have := h.rb'; omega), ?_, h.rb', m1.b48, m1.b49⟩
  rw [heap_setCell_same hr3]
  rfl
/-- The rumour is kept. -/
theorem PkMid.keep {w wr : World} {rb : Nat} {news : List Mb} {kept : List (Mb × Int)} {r : Mb × Int} {v48 v49 : Value} (h : PkMid w rb news kept r v48 v49 wr) (hn : kept.length ≤ 100000) :
    ∃ g cap w3, (Builtin.append_ #[49, 49] 49 #[v49, .slice (some ⟨wr.heap.size, 0, none⟩) 1 1]).run Yba.prog (wr.alloc (.cells #[.string r.1.addr, .int .u64 r.1.tok, .int .u8 r.1.st, .int .u64 r.1.inc, .int .i64 r.2] 56)) = .ok (.slice (some ⟨g, 0, none⟩) (kept.length + 1) cap) w3 ∧
      ∀ room, PkAt w ⟨room, news, kept ++ [r]⟩ v48 (.slice (some ⟨g, 0, none⟩) (kept.length + 1) cap) w3 := by
  obtain ⟨g, cap, w3, hr, ho, hk⟩ := append_one (t := 49) Yba.underlying49 info56 rfl (by omega) h.row (by have := h.kept.size; omega) #[.string r.1.addr, .int .u64 r.1.tok, .int .u8 r.1.st, .int .u64 r.1.inc, .int .i64 r.2] rfl (by intro u hu; simp at hu; rcases hu with rfl | rfl | rfl | rfl | rfl <;> rfl) hn (by omega)
  refine ⟨g, cap, w3, hr, fun room => ⟨own_kept h.news hk (fun b hb => own_ne h.news h.row (by decide) hb), ?_, h.kept.trans hk (fun b hb hv => by have := (ownsRow_lt h.row hv).1; omega)⟩⟩
  have : rcells (kept ++ [r]) = rcells kept ++ [.string r.1.addr, .int .u64 r.1.tok, .int .u8 r.1.st, .int .u64 r.1.inc, .int .i64 r.2] := by simp [rcells]
  show w3.ownsRow _ _ _ _ (kept ++ [r]).length (rcells (kept ++ [r]))
  rw [this]
  simpa using ho

theorem Pv.run_ok {M : List (Mb × Int)} (h : ∀ r ∈ M, r.1.Ok) : ∀ r ∈ M, 0 < recF r.1 := fun r hr => (recF_bd (h r hr)).1

set_option maxHeartbeats 4000000 in
theorem packL (A : Option Addr) (n cap : Nat) (M : List (Mb × Int)) (lim room : Int) (w : World) (HN : Hid (M.length = n)) (hrow : Hid (ARow w A M)) (hok : Hid (∀ r ∈ M, r.1.Ok ∧ 0 ≤ r.2 ∧ r.2 ≤ 1000000)) (hn5 : n ≤ 100000) (hr1 : -1125899906844000 ≤ room) (hr2 : room ≤ 1400) {Q : Exit → Act → World → Prop}
    (hexit : ∀ a' w', (∃ u44 u48 u49 u51 u52 u256 u257 u258 u259 u260 u261 u262 u263 u264 u265 u266 u267 u268 u269 u270 u271 u272 u273 u274 u275 u276 u277 u278 u279 u280 u281 u282 u283 u284 u285 u286 u287 u288 u289 u290 u291 u292 u293 u294 u295 : Value, (Hid (PkAt w (Pv.run lim room M) u48 u49 w')) ∧ a' = ⟨List.toArray (s0 :: s1 :: s2 :: s3 :: s4 :: s5 :: s6 :: s7 :: s8 :: s9 :: s10 :: s11 :: s12 :: s13 :: s14 :: s15 :: s16 :: s17 :: s18 :: s19 :: s20 :: s21 :: s22 :: s23 :: s24 :: s25 :: s26 :: s27 :: s28 :: s29 :: s30 :: s31 :: s32 :: s33 :: s34 :: s35 :: s36 :: s37 :: s38 :: s39 :: (.int .i64 lim) :: s41 :: s42 :: s43 :: u44 :: s45 :: s46 :: s47 :: u48 :: u49 :: s50 :: u51 :: u52 :: s53 :: s54 :: s55 :: s56 :: s57 :: s58 :: s59 :: s60 :: s61 :: s62 :: s63 :: s64 :: s65 :: s66 :: s67 :: s68 :: s69 :: s70 :: s71 :: s72 :: s73 :: s74 :: s75 :: s76 :: s77 :: s78 :: s79 :: s80 :: s81 :: s82 :: s83 :: s84 :: s85 :: s86 :: s87 :: s88 :: s89 :: s90 :: s91 :: s92 :: s93 :: s94 :: s95 :: s96 :: s97 :: s98 :: s99 :: s100 :: s101 :: s102 :: s103 :: s104 :: s105 :: s106 :: s107 :: s108 :: s109 :: s110 :: s111 :: s112 :: s113 :: s114 :: s115 :: s116 :: s117 :: s118 :: s119 :: s120 :: s121 :: s122 :: s123 :: s124 :: s125 :: s126 :: s127 :: s128 :: s129 :: s130 :: s131 :: s132 :: s133 :: s134 :: s135 :: s136 :: s137 :: s138 :: s139 :: s140 :: s141 :: s142 :: s143 :: s144 :: s145 :: s146 :: s147 :: s148 :: s149 :: s150 :: s151 :: s152 :: s153 :: s154 :: s155 :: s156 :: s157 :: s158 :: s159 :: s160 :: s161 :: s162 :: s163 :: s164 :: s165 :: s166 :: s167 :: s168 :: s169 :: s170 :: s171 :: s172 :: s173 :: s174 :: s175 :: s176 :: s177 :: s178 :: s179 :: s180 :: s181 :: s182 :: s183 :: s184 :: s185 :: s186 :: s187 :: s188 :: s189 :: s190 :: s191 :: s192 :: s193 :: s194 :: s195 :: s196 :: s197 :: s198 :: s199 :: s200 :: s201 :: s202 :: s203 :: s204 :: s205 :: s206 :: s207 :: s208 :: s209 :: s210 :: s211 :: s212 :: s213 :: s214 :: s215 :: s216 :: s217 :: s218 :: s219 :: s220 :: s221 :: s222 :: s223 :: s224 :: s225 :: s226 :: s227 :: s228 :: s229 :: s230 :: s231 :: s232 :: s233 :: s234 :: s235 :: s236 :: s237 :: s238 :: s239 :: s240 :: s241 :: s242 :: s243 :: s244 :: s245 :: s246 :: s247 :: s248 :: s249 :: s250 :: s251 :: s252 :: s253 :: (.slice A n cap) :: (.int .i64 (n : Int)) :: u256 :: u257 :: u258 :: u259 :: u260 :: u261 :: u262 :: u263 :: u264 :: u265 :: u266 :: u267 :: u268 :: u269 :: u270 :: u271 :: u272 :: u273 :: u274 :: u275 :: u276 :: u277 :: u278 :: u279 :: u280 :: u281 :: u282 :: u283 :: u284 :: u285 :: u286 :: u287 :: u288 :: u289 :: u290 :: u291 :: u292 :: u293 :: u294 :: u295 :: s296 :: s297 :: s298 :: s299 :: s300 :: s301 :: s302 :: s303 :: s304 :: s305 :: s306 :: s307 :: s308 :: s309 :: s310 :: s311 :: s312 :: s313 :: s314 :: s315 :: s316 :: s317 :: s318 :: s319 :: s320 :: s321 :: s322 :: s323 :: s324 :: s325 :: s326 :: s327 :: s328 :: s329 :: s330 :: s331 :: s332 :: s333 :: s334 :: s335 :: s336 :: s337 :: s338 :: s339 :: s340 :: s341 :: s342 :: s343 :: s344 :: s345 :: s346 :: s347 :: s348 :: s349 :: s350 :: s351 :: s352 :: s353 :: s354 :: s355 :: s356 :: s357 :: s358 :: s359 :: s360 :: s361 :: s362 :: s363 :: s364 :: s365 :: s366 :: s367 :: s368 :: s369 :: s370 :: s371 :: s372 :: s373 :: s374 :: s375 :: s376 :: s377 :: s378 :: s379 :: s380 :: s381 :: s382 :: s383 :: s384 :: s385 :: s386 :: s387 :: s388 :: s389 :: s390 :: s391 :: s392 :: s393 :: s394 :: s395 :: s396 :: s397 :: s398 :: s399 :: s400 :: s401 :: s402 :: s403 :: s404 :: s405 :: s406 :: s407 :: s408 :: s409 :: s410 :: s411 :: s412 :: s413 :: s414 :: s415 :: s416 :: s417 :: s418 :: s419 :: s420 :: s421 :: s422 :: s423 :: s424 :: s425 :: s426 :: s427 :: s428 :: s429 :: s430 :: s431 :: s432 :: s433 :: s434 :: s435 :: s436 :: s437 :: s438 :: s439 :: s440 :: s441 :: s442 :: s443 :: s444 :: s445 :: s446 :: s447 :: s448 :: s449 :: s450 :: s451 :: s452 :: s453 :: s454 :: s455 :: s456 :: s457 :: s458 :: s459 :: s460 :: s461 :: s462 :: s463 :: s464 :: s465 :: s466 :: s467 :: s468 :: s469 :: s470 :: s471 :: s472 :: s473 :: s474 :: s475 :: s476 :: s477 :: s478 :: s479 :: s480 :: s481 :: s482 :: s483 :: s484 :: s485 :: s486 :: s487 :: s488 :: s489 :: s490 :: s491 :: s492 :: s493 :: s494 :: s495 :: s496 :: s497 :: s498 :: s499 :: s500 :: s501 :: s502 :: s503 :: s504 :: s505 :: s506 :: s507 :: s508 :: s509 :: s510 :: s511 :: s512 :: s513 :: s514 :: s515 :: s516 :: s517 :: s518 :: s519 :: s520 :: s521 :: s522 :: s523 :: s524 :: s525 :: s526 :: s527 :: s528 :: s529 :: s530 :: s531 :: s532 :: s533 :: s534 :: []), []⟩) → Q (.exit 10) a' w') :
    Code.wp Yba.prog ((Yba.f3.body.bind (blk 10)).getD .skip) Q ⟨List.toArray (s0 :: s1 :: s2 :: s3 :: s4 :: s5 :: s6 :: s7 :: s8 :: s9 :: s10 :: s11 :: s12 :: s13 :: s14 :: s15 :: s16 :: s17 :: s18 :: s19 :: s20 :: s21 :: s22 :: s23 :: s24 :: s25 :: s26 :: s27 :: s28 :: s29 :: s30 :: s31 :: s32 :: s33 :: s34 :: s35 :: s36 :: s37 :: s38 :: s39 :: (.int .i64 lim) :: s41 :: s42 :: s43 :: (.int .i64 room) :: s45 :: s46 :: s47 :: (.slice none 0 0) :: (.slice none 0 0) :: s50 :: s51 :: s52 :: s53 :: s54 :: s55 :: s56 :: s57 :: s58 :: s59 :: s60 :: s61 :: s62 :: s63 :: s64 :: s65 :: s66 :: s67 :: s68 :: s69 :: s70 :: s71 :: s72 :: s73 :: s74 :: s75 :: s76 :: s77 :: s78 :: s79 :: s80 :: s81 :: s82 :: s83 :: s84 :: s85 :: s86 :: s87 :: s88 :: s89 :: s90 :: s91 :: s92 :: s93 :: s94 :: s95 :: s96 :: s97 :: s98 :: s99 :: s100 :: s101 :: s102 :: s103 :: s104 :: s105 :: s106 :: s107 :: s108 :: s109 :: s110 :: s111 :: s112 :: s113 :: s114 :: s115 :: s116 :: s117 :: s118 :: s119 :: s120 :: s121 :: s122 :: s123 :: s124 :: s125 :: s126 :: s127 :: s128 :: s129 :: s130 :: s131 :: s132 :: s133 :: s134 :: s135 :: s136 :: s137 :: s138 :: s139 :: s140 :: s141 :: s142 :: s143 :: s144 :: s145 :: s146 :: s147 :: s148 :: s149 :: s150 :: s151 :: s152 :: s153 :: s154 :: s155 :: s156 :: s157 :: s158 :: s159 :: s160 :: s161 :: s162 :: s163 :: s164 :: s165 :: s166 :: s167 :: s168 :: s169 :: s170 :: s171 :: s172 :: s173 :: s174 :: s175 :: s176 :: s177 :: s178 :: s179 :: s180 :: s181 :: s182 :: s183 :: s184 :: s185 :: s186 :: s187 :: s188 :: s189 :: s190 :: s191 :: s192 :: s193 :: s194 :: s195 :: s196 :: s197 :: s198 :: s199 :: s200 :: s201 :: s202 :: s203 :: s204 :: s205 :: s206 :: s207 :: s208 :: s209 :: s210 :: s211 :: s212 :: s213 :: s214 :: s215 :: s216 :: s217 :: s218 :: s219 :: s220 :: s221 :: s222 :: s223 :: s224 :: s225 :: s226 :: s227 :: s228 :: s229 :: s230 :: s231 :: s232 :: s233 :: s234 :: s235 :: s236 :: s237 :: s238 :: s239 :: s240 :: s241 :: s242 :: s243 :: s244 :: s245 :: s246 :: s247 :: s248 :: s249 :: s250 :: s251 :: s252 :: s253 :: (.slice A n cap) :: (.int .i64 (n : Int)) :: (.int .i64 0) :: s257 :: s258 :: s259 :: s260 :: s261 :: s262 :: s263 :: s264 :: s265 :: s266 :: s267 :: s268 :: s269 :: s270 :: s271 :: s272 :: s273 :: s274 :: s275 :: s276 :: s277 :: s278 :: s279 :: s280 :: s281 :: s282 :: s283 :: s284 :: s285 :: s286 :: s287 :: s288 :: s289 :: s290 :: s291 :: s292 :: s293 :: s294 :: s295 :: s296 :: s297 :: s298 :: s299 :: s300 :: s301 :: s302 :: s303 :: s304 :: s305 :: s306 :: s307 :: s308 :: s309 :: s310 :: s311 :: s312 :: s313 :: s314 :: s315 :: s316 :: s317 :: s318 :: s319 :: s320 :: s321 :: s322 :: s323 :: s324 :: s325 :: s326 :: s327 :: s328 :: s329 :: s330 :: s331 :: s332 :: s333 :: s334 :: s335 :: s336 :: s337 :: s338 :: s339 :: s340 :: s341 :: s342 :: s343 :: s344 :: s345 :: s346 :: s347 :: s348 :: s349 :: s350 :: s351 :: s352 :: s353 :: s354 :: s355 :: s356 :: s357 :: s358 :: s359 :: s360 :: s361 :: s362 :: s363 :: s364 :: s365 :: s366 :: s367 :: s368 :: s369 :: s370 :: s371 :: s372 :: s373 :: s374 :: s375 :: s376 :: s377 :: s378 :: s379 :: s380 :: s381 :: s382 :: s383 :: s384 :: s385 :: s386 :: s387 :: s388 :: s389 :: s390 :: s391 :: s392 :: s393 :: s394 :: s395 :: s396 :: s397 :: s398 :: s399 :: s400 :: s401 :: s402 :: s403 :: s404 :: s405 :: s406 :: s407 :: s408 :: s409 :: s410 :: s411 :: s412 :: s413 :: s414 :: s415 :: s416 :: s417 :: s418 :: s419 :: s420 :: s421 :: s422 :: s423 :: s424 :: s425 :: s426 :: s427 :: s428 :: s429 :: s430 :: s431 :: s432 :: s433 :: s434 :: s435 :: s436 :: s437 :: s438 :: s439 :: s440 :: s441 :: s442 :: s443 :: s444 :: s445 :: s446 :: s447 :: s448 :: s449 :: s450 :: s451 :: s452 :: s453 :: s454 :: s455 :: s456 :: s457 :: s458 :: s459 :: s460 :: s461 :: s462 :: s463 :: s464 :: s465 :: s466 :: s467 :: s468 :: s469 :: s470 :: s471 :: s472 :: s473 :: s474 :: s475 :: s476 :: s477 :: s478 :: s479 :: s480 :: s481 :: s482 :: s483 :: s484 :: s485 :: s486 :: s487 :: s488 :: s489 :: s490 :: s491 :: s492 :: s493 :: s494 :: s495 :: s496 :: s497 :: s498 :: s499 :: s500 :: s501 :: s502 :: s503 :: s504 :: s505 :: s506 :: s507 :: s508 :: s509 :: s510 :: s511 :: s512 :: s513 :: s514 :: s515 :: s516 :: s517 :: s518 :: s519 :: s520 :: s521 :: s522 :: s523 :: s524 :: s525 :: s526 :: s527 :: s528 :: s529 :: s530 :: s531 :: s532 :: s533 :: s534 :: []), []⟩ w := by
  conv => arg 2; whnf
  go_loopw [44, 48, 49, 256] (fun v44 v48 v49 v256 wr => ∃ i : Nat, i ≤ n ∧ v256 = .int .i64 (i : Int) ∧ v44 = .int .i64 (Pv.run lim room (M.take i)).room ∧ Hid (PkAt w (Pv.run lim room (M.take i)) v48 v49 wr)) (fun _ _ _ v256 _ => n - (intOf v256).toNat)
  case atStart => exact ⟨0, Nat.zero_le _, rfl, by simp [Pv.run], ⟨by simpa [Pv.run, mcells] using World.ownsRow_nil w w.heap.size 29 4, by simpa [Pv.run, rcells] using World.ownsRow_nil w w.heap.size 56 5, Kept.refl _ _⟩⟩
  case round =>
    obtain ⟨i, hi, rfl, rfl, H⟩ := hrel
    by_cases hlt : i < n
    · have hltI : (i : Int) < (n : Int) := by omega
      have hiM : i < M.length := by have := HN.out; omega
      obtain ⟨gb, rest, rfl, hM⟩ := hrow.out i hiM
      obtain ⟨r, Hr⟩ : ∃ r, Hid (M[i]? = some r) := ⟨M[i], List.getElem?_eq_getElem hiM⟩
      have hMi : M[i] = r := by have := Hr.out; rw [List.getElem?_eq_getElem hiM] at this; exact Option.some.inj this
      have hrm : r ∈ M := List.mem_of_getElem? Hr.out
      have hbd := Pv.run_bd lim room (M.take i) (Pv.run_ok (fun r hr => (hok.out r (List.mem_of_mem_take hr)).1))
      have Hnext : Hid (Pv.run lim room (M.take (i + 1)) = Pv.step lim (Pv.run lim room (M.take i)) r) := Pv.run_next lim room Hr.out
      obtain ⟨p, Hp⟩ : ∃ p, Hid (Pv.run lim room (M.take i) = p) := ⟨_, rfl⟩
      rw [Hp.out] at H Hnext hbd
      rw [Hp.out]
      obtain ⟨p1, p2, p3, p4⟩ := hbd
      simp only [List.length_take] at p3 p4
      obtain ⟨c0, c1, c2, c3, c4⟩ := (hM.kept H.out.kept (fun e => e)).cells hiM
      rw [hMi] at c0 c1 c2 c3 c4
      obtain ⟨hrok, hrk0, hrk1⟩ := hok.out r hrm
      have hsz := recF_bd hrok
      have hrec := fun W' => rec_any r.1 hrok W'
      obtain ⟨sz, Hsz⟩ : ∃ sz, Hid (recF r.1 = sz) := ⟨_, rfl⟩
      rw [Hsz.out] at hsz
      simp only [Hsz.out] at hrec
      have Hmid : Hid (PkMid w wr.heap.size p.news p.kept r u48 u49 (wr.alloc (.cells #[.string r.1.addr, .int .u64 r.1.tok, .int .u8 r.1.st, .int .u64 r.1.inc, .int .i64 r.2] 56))) := H.out.enter r
      obtain ⟨rm, Hrm⟩ : ∃ rm, Hid (p.room = rm) := ⟨_, rfl⟩
      rw [Hrm.out] at p1 p2
      rw [Hrm.out]
      clear hiM hrow hMi hrm hM
      go_upto_region 64 with (go_at_call 7; refine (hrec _).mono ?_; rintro e w1 ⟨rfl, hB1⟩)
      have Hm1 : Hid (PkMid w wr.heap.size p.news p.kept r u48 u49 w1) := Hmid.out.below hB1
      have hhas := has_any p.news u48 r.1.addr w1 (ownsRow_base Hm1.out.news (Nat.zero_le _))
      obtain ⟨d0, d1, d2, d3, d4, _⟩ := Hm1.out.cells
      have Hfit : Hid (p.fits r = (decide (sz ≤ rm) && !hasF p.news r.1.addr)) := by
        show _ = _
        rw [Pv.fits, Hsz.out, Hrm.out]
      obtain ⟨hs, Hhs⟩ : ∃ hs, Hid (hasF p.news r.1.addr = hs) := ⟨_, rfl⟩
      rw [Hhs.out] at hhas Hfit
      clear c0 c1 c2 c3 c4 hB1 hrec
      go_cut [274] from 257 to 295 (fun v274 w' => v274 = .bool (p.fits r) ∧ Below w1.heap.size w1 w')
      case first =>
        by_cases hle : sz ≤ rm
        · have hb : Below w1.heap.size w1 w1 := Below.refl _ _
          go_wp2_with (go_at_call 8; refine hhas.mono ?_; rintro e w2 ⟨rfl, hB2⟩)
          go_meet
          refine ⟨?_, hB2⟩
          rw [Hfit.out]
          simp [hle]
        · go_wp2
          go_meet
          refine ⟨?_, Below.refl _ _⟩
          rw [Hfit.out]
          have : decide (sz ≤ rm) = false := decide_eq_false (by omega)
          rw [this]
          rfl
      case rest =>
        obtain ⟨rfl, hB2⟩ := hcut
        have Hm2 : Hid (PkMid w wr.heap.size p.news p.kept r u48 u49 wc) := Hm1.out.below hB2
        clear hB2 hhas d0 d1 d2 d3 d4
        obtain ⟨d0, d1, d2, d3, d4, dz⟩ := Hm2.out.cells
        cases hf : p.fits r with
        | true =>
          have hle : sz ≤ rm := by
            have := Hfit.out
            rw [hf] at this
            simp at this
            exact this.1
          obtain ⟨g, gcap, w3, hr3, Hm3, Hm4⟩ : ∃ g gcap w3, _ ∧ Hid _ ∧ Hid _ := Hm2.out.tell (by omega)
          obtain ⟨e0, e1, e2, e3, e4, ez⟩ := Hm3.out.cells
          have Hstep : Hid (Pv.step lim p r = ⟨rm - sz, p.news ++ [r.1], if r.2 + 1 < lim then p.kept ++ [(r.1, r.2 + 1)] else p.kept⟩) := by
            show _ = _
            rw [Pv.step, hf, if_pos rfl, Hsz.out, Hrm.out]
          clear hf
          go_upto_region 68 with (at_builtin; refine wpList_append_eq (by rfl) _ _ 30 (by rfl) u48 (.slice (some ⟨wc.heap.size, 0, none⟩) 1 1) _ _ (by rfl) (by rfl) hr3 ?_)
          generalize w3.setCell ⟨wr.heap.size, 4, none⟩ (.int .i64 (r.2 + 1)) = w4 at Hm4 ⊢
          clear e0 e1 e2 e3 e4 ez d0 d1 d2 d3 d4 dz hr3
          obtain ⟨g0, g1, g2, g3, g4, _⟩ := Hm4.out.cells
          obtain ⟨h, hcap, w5, hr5, Hat⟩ : ∃ h hcap w5, _ ∧ Hid _ := Hm4.out.keep (by omega)
          simp only at g0 g1 g2 g3 g4 hr5
          by_cases hlim : r.2 + 1 < lim
          · have Hn : Hid (PkAt w (Pv.run lim room (M.take (i + 1))) (.slice (some ⟨g, 0, none⟩) (p.news.length + 1) gcap) (.slice (some ⟨h, 0, none⟩) (p.kept.length + 1) hcap) w5 ∧ rm - sz = (Pv.run lim room (M.take (i + 1))).room) := by
              rw [Hnext.out, Hstep.out, if_pos hlim]
              exact ⟨Hat.out _, rfl⟩
            go_wp2_with (at_builtin; refine wpList_append_eq (by rfl) _ _ 49 (by rfl) u49 (.slice (some ⟨w4.heap.size, 0, none⟩) 1 1) _ _ (by rfl) (by rfl) hr5 ?_)
            go_roundw
            case rel => exact ⟨i + 1, by omega, by go_num, by rw [← Hn.out.2], Hn.out.1⟩
            case measure => simp [intOf]; omega
          · have Hn : Hid (PkAt w (Pv.run lim room (M.take (i + 1))) (.slice (some ⟨g, 0, none⟩) (p.news.length + 1) gcap) u49 w4 ∧ rm - sz = (Pv.run lim room (M.take (i + 1))).room) := by
              rw [Hnext.out, Hstep.out, if_neg hlim]
              exact ⟨⟨by simpa using Hm4.out.news, Hm4.out.row, Hm4.out.kept⟩, rfl⟩
            go_wp2
            go_roundw
            case rel => exact ⟨i + 1, by omega, by go_num, by rw [← Hn.out.2], Hn.out.1⟩
            case measure => simp [intOf]; omega
        | false =>
          have Hstep : Hid (Pv.step lim p r = ⟨rm, p.news, if r.2 < lim then p.kept ++ [r] else p.kept⟩) := by
            show _ = _
            rw [Pv.step, hf, if_neg (by simp), Hrm.out]
          obtain ⟨h, hcap, w5, hr5, Hat⟩ : ∃ h hcap w5, _ ∧ Hid _ := Hm2.out.keep (by omega)
          clear hf
          by_cases hlim : r.2 < lim
          · have Hn : Hid (PkAt w (Pv.run lim room (M.take (i + 1))) u48 (.slice (some ⟨h, 0, none⟩) (p.kept.length + 1) hcap) w5 ∧ rm = (Pv.run lim room (M.take (i + 1))).room) := by
              rw [Hnext.out, Hstep.out, if_pos hlim]
              exact ⟨Hat.out _, rfl⟩
            go_wp2_with (at_builtin; refine wpList_append_eq (by rfl) _ _ 49 (by rfl) u49 (.slice (some ⟨wc.heap.size, 0, none⟩) 1 1) _ _ (by rfl) (by rfl) hr5 ?_)
            go_roundw
            case rel => exact ⟨i + 1, by omega, by go_num, by rw [← Hn.out.2], Hn.out.1⟩
            case measure => simp [intOf]; omega
          · have Hn : Hid (PkAt w (Pv.run lim room (M.take (i + 1))) u48 u49 wc ∧ rm = (Pv.run lim room (M.take (i + 1))).room) := by
              rw [Hnext.out, Hstep.out, if_neg hlim]
              exact ⟨⟨Hm2.out.news, Hm2.out.row, Hm2.out.kept⟩, rfl⟩
            go_wp2
            go_roundw
            case rel => exact ⟨i + 1, by omega, by go_num, by rw [← Hn.out.2], Hn.out.1⟩
            case measure => simp [intOf]; omega
    · have hltI : ¬ (i : Int) < (n : Int) := by omega
      have Hend : Hid (PkAt w (Pv.run lim room M) u48 u49 wr) := by
        have h2 : M.length ≤ i := by have := HN.out; omega
        have := H.out
        rw [List.take_of_length_le h2] at this
        exact this
      go_wp2
      all_goals
        repeat apply Exists.intro
        exact ⟨Hend.out, rfl, rfl, rfl⟩
end Go.Proofs.Ybulkejoc

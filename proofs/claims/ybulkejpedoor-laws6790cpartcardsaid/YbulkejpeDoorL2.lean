/- The law's second loop: the writes. -/
import Derived.Test.YbulkejpeDoorLm
namespace Go.Proofs.YbulkejpeDoor
open Go Go.ChangeShapes Go.WideShapes Go.ChangeAt Go.RowKit
set_option maxRecDepth 1000000
variable {s0 s1 s2 s3 s4 s5 s6 s7 s8 s9 s10 s11 s12 s13 s14 s15 s16 s17 s18 s19 s20 s21 s22 s23 s24 s25 s26 s27 s28 s29 s30 s31 s32 s33 s34 s35 s36 s37 s38 s39 s40 s41 s42 s43 s44 s45 s46 s47 s48 s49 s50 s51 s52 s53 s54 s55 s56 s57 s58 s59 s60 s61 s62 s63 s64 s65 s66 s67 s68 s69 s70 s71 s72 s73 s74 s75 s76 s77 s78 s79 s80 s81 s82 s83 s84 s85 s86 s87 s88 s89 s90 s91 s92 s93 s94 s95 s96 s97 s98 s99 s100 s101 s102 s103 s104 s105 s106 s107 s108 s109 s110 s111 s112 s113 s114 s115 s116 s117 s118 s119 s120 s121 s122 s123 s124 s125 s126 s127 s128 s129 s130 s131 s132 s133 s134 s135 s136 s137 s138 s139 s140 s141 s142 s143 s144 s145 s146 s147 s148 s149 s150 s151 s152 s153 s154 s155 s156 s157 s158 s159 s160 s161 s162 s163 s164 s165 s166 s167 s168 s169 s170 s171 s172 s173 s174 s175 s176 s177 s178 s179 s180 s181 s182 s183 s184 s185 s186 s187 s188 s189 s190 s191 s192 s193 s194 s195 s196 s197 s198 s199 s200 s201 s202 s203 s204 s205 s206 s207 s208 s209 s210 s211 s212 s213 s214 s215 s216 s217 s218 s219 s220 s221 s222 s223 s224 s225 s226 s227 s228 s229 s230 s231 s232 s233 s234 s235 s236 s237 s238 s239 s240 s241 s242 s243 s244 s245 s246 s247 s248 s249 s250 s251 s252 s253 s254 s255 s256 s257 s258 s259 s260 s261 s262 s263 s264 s265 s266 s267 s268 s269 s270 s271 s272 s273 s274 s275 s276 s277 s278 s279 s280 s281 s282 s283 s284 s285 s286 s287 s288 s289 s290 s291 s292 s293 s294 s295 s296 s297 s298 s299 s300 s301 s302 s303 s304 s305 s306 s307 s308 s309 s310 s311 s312 s313 s314 s315 s316 s317 s318 s319 s320 s321 s322 s323 s324 s325 s326 s327 s328 s329 s330 s331 s332 s333 s334 s335 s336 s337 s338 s339 s340 s341 s342 s343 s344 s345 s346 s347 s348 s349 s350 s351 s352 s353 s354 s355 s356 s357 s358 s359 s360 s361 s362 s363 s364 s365 s366 s367 s368 s369 s370 s371 s372 s373 s374 s375 s376 s377 s378 s379 s380 s381 s382 s383 s384 s385 s386 s387 s388 : Value}

theorem kept5 {w w' : World} {g i1 i2 i3 i4 i5 : Nat} {a b c d e : Value} (h : Kept (fun b => b = g) w w') : Kept (fun b => b = g) w (((((w'.setCell ⟨g, i1, none⟩ a).setCell ⟨g, i2, none⟩ b).setCell ⟨g, i3, none⟩ c).setCell ⟨g, i4, none⟩ d).setCell ⟨g, i5, none⟩ e) := by
  iterate 5 refine Kept.setCell (S := fun b => b = g) ?_ (fun _ => rfl) _
  exact h

set_option maxHeartbeats 4000000 in
theorem lp2 (W w1 : World) (WA : Option Addr) (n nw wcap wb : Nat) (e : Int) (f : Nat → Wi) (hn : n ≤ 512) (hnw : nw ≤ 512) (he : 1 ≤ e ∧ e ≤ 4) (HL : Hid (InW W WA nw f)) (HB : Hid (Below W.heap.size W w1 ∧ W.heap.size ≤ wb)) (HF : Hid (Fill w1 wb 39 5 nw 0 (wcells (mkWs n e nw f)))) {Q : Exit → Act → World → Prop}
    (hexit : ∀ a' w', (∃ u26 u27 u28 u110 u111 u112 u113 u114 u115 u116 u117 u118 u119 u120 u121 u122 u123 u124 u125 u126 u127 u128 u129 u130 u131 u132 u133 u134 u135 u136 u137 u138 u139 u140 u141 u142 u143 u144 u145 u146 u147 u148 u149 u150 u151 u152 u153 u154 u155 u156 u157 u158 u159 u160 u161 u162 u163 u164 : Value, (Hid (Kept (fun b => b = wb) w1 w' ∧ Fill w' wb 39 5 nw nw (wcells (mkWs n e nw f)))) ∧ a' = ⟨List.toArray (s0 :: s1 :: s2 :: s3 :: s4 :: s5 :: (.slice WA nw wcap) :: s7 :: s8 :: s9 :: s10 :: s11 :: s12 :: s13 :: s14 :: s15 :: s16 :: (.int .i64 (n : Int)) :: s18 :: s19 :: s20 :: s21 :: s22 :: (.int .i64 e) :: s24 :: (.slice (some ⟨wb, 0, none⟩) nw nw) :: u26 :: u27 :: u28 :: s29 :: s30 :: s31 :: s32 :: s33 :: s34 :: s35 :: s36 :: s37 :: s38 :: s39 :: s40 :: s41 :: s42 :: s43 :: s44 :: s45 :: s46 :: s47 :: s48 :: s49 :: s50 :: s51 :: s52 :: s53 :: s54 :: s55 :: s56 :: s57 :: s58 :: s59 :: s60 :: s61 :: s62 :: s63 :: s64 :: s65 :: s66 :: s67 :: s68 :: s69 :: s70 :: s71 :: s72 :: s73 :: s74 :: s75 :: s76 :: s77 :: s78 :: s79 :: s80 :: s81 :: s82 :: s83 :: s84 :: s85 :: s86 :: s87 :: s88 :: s89 :: s90 :: s91 :: s92 :: s93 :: s94 :: s95 :: s96 :: s97 :: s98 :: s99 :: s100 :: s101 :: s102 :: s103 :: s104 :: s105 :: s106 :: s107 :: s108 :: s109 :: u110 :: u111 :: u112 :: u113 :: u114 :: u115 :: u116 :: u117 :: u118 :: u119 :: u120 :: u121 :: u122 :: u123 :: u124 :: u125 :: u126 :: u127 :: u128 :: u129 :: u130 :: u131 :: u132 :: u133 :: u134 :: u135 :: u136 :: u137 :: u138 :: u139 :: u140 :: u141 :: u142 :: u143 :: u144 :: u145 :: u146 :: u147 :: u148 :: u149 :: u150 :: u151 :: u152 :: u153 :: u154 :: u155 :: u156 :: u157 :: u158 :: u159 :: u160 :: u161 :: u162 :: u163 :: u164 :: s165 :: s166 :: s167 :: s168 :: s169 :: s170 :: s171 :: s172 :: s173 :: s174 :: s175 :: s176 :: s177 :: s178 :: s179 :: s180 :: s181 :: s182 :: s183 :: s184 :: s185 :: s186 :: s187 :: s188 :: s189 :: s190 :: s191 :: s192 :: s193 :: s194 :: s195 :: s196 :: s197 :: s198 :: s199 :: s200 :: s201 :: s202 :: s203 :: s204 :: s205 :: s206 :: s207 :: s208 :: s209 :: s210 :: s211 :: s212 :: s213 :: s214 :: s215 :: s216 :: s217 :: s218 :: s219 :: s220 :: s221 :: s222 :: s223 :: s224 :: s225 :: s226 :: s227 :: s228 :: s229 :: s230 :: s231 :: s232 :: s233 :: s234 :: s235 :: s236 :: s237 :: s238 :: s239 :: s240 :: s241 :: s242 :: s243 :: s244 :: s245 :: s246 :: s247 :: s248 :: s249 :: s250 :: s251 :: s252 :: s253 :: s254 :: s255 :: s256 :: s257 :: s258 :: s259 :: s260 :: s261 :: s262 :: s263 :: s264 :: s265 :: s266 :: s267 :: s268 :: s269 :: s270 :: s271 :: s272 :: s273 :: s274 :: s275 :: s276 :: s277 :: s278 :: s279 :: s280 :: s281 :: s282 :: s283 :: s284 :: s285 :: s286 :: s287 :: s288 :: s289 :: s290 :: s291 :: s292 :: s293 :: s294 :: s295 :: s296 :: s297 :: s298 :: s299 :: s300 :: s301 :: s302 :: s303 :: s304 :: s305 :: s306 :: s307 :: s308 :: s309 :: s310 :: s311 :: s312 :: s313 :: s314 :: s315 :: s316 :: s317 :: s318 :: s319 :: s320 :: s321 :: s322 :: s323 :: s324 :: s325 :: s326 :: s327 :: s328 :: s329 :: s330 :: s331 :: s332 :: s333 :: s334 :: s335 :: s336 :: s337 :: s338 :: s339 :: s340 :: s341 :: s342 :: s343 :: s344 :: s345 :: s346 :: s347 :: s348 :: s349 :: s350 :: s351 :: s352 :: s353 :: s354 :: s355 :: s356 :: s357 :: s358 :: s359 :: s360 :: s361 :: s362 :: s363 :: s364 :: s365 :: s366 :: s367 :: s368 :: s369 :: s370 :: s371 :: s372 :: s373 :: s374 :: s375 :: s376 :: s377 :: s378 :: s379 :: s380 :: s381 :: s382 :: s383 :: s384 :: s385 :: s386 :: s387 :: s388 :: []), []⟩) → Q (.exit 2) a' w') :
    Code.wp Ybad.prog ((Ybad.f3.body.bind (blk 2)).getD .skip) Q ⟨List.toArray (s0 :: s1 :: s2 :: s3 :: s4 :: s5 :: (.slice WA nw wcap) :: s7 :: s8 :: s9 :: s10 :: s11 :: s12 :: s13 :: s14 :: s15 :: s16 :: (.int .i64 (n : Int)) :: s18 :: s19 :: s20 :: s21 :: s22 :: (.int .i64 e) :: s24 :: (.slice (some ⟨wb, 0, none⟩) nw nw) :: (.int .i64 0) :: s27 :: s28 :: s29 :: s30 :: s31 :: s32 :: s33 :: s34 :: s35 :: s36 :: s37 :: s38 :: s39 :: s40 :: s41 :: s42 :: s43 :: s44 :: s45 :: s46 :: s47 :: s48 :: s49 :: s50 :: s51 :: s52 :: s53 :: s54 :: s55 :: s56 :: s57 :: s58 :: s59 :: s60 :: s61 :: s62 :: s63 :: s64 :: s65 :: s66 :: s67 :: s68 :: s69 :: s70 :: s71 :: s72 :: s73 :: s74 :: s75 :: s76 :: s77 :: s78 :: s79 :: s80 :: s81 :: s82 :: s83 :: s84 :: s85 :: s86 :: s87 :: s88 :: s89 :: s90 :: s91 :: s92 :: s93 :: s94 :: s95 :: s96 :: s97 :: s98 :: s99 :: s100 :: s101 :: s102 :: s103 :: s104 :: s105 :: s106 :: s107 :: s108 :: s109 :: s110 :: s111 :: s112 :: s113 :: s114 :: s115 :: s116 :: s117 :: s118 :: s119 :: s120 :: s121 :: s122 :: s123 :: s124 :: s125 :: s126 :: s127 :: s128 :: s129 :: s130 :: s131 :: s132 :: s133 :: s134 :: s135 :: s136 :: s137 :: s138 :: s139 :: s140 :: s141 :: s142 :: s143 :: s144 :: s145 :: s146 :: s147 :: s148 :: s149 :: s150 :: s151 :: s152 :: s153 :: s154 :: s155 :: s156 :: s157 :: s158 :: s159 :: s160 :: s161 :: s162 :: s163 :: s164 :: s165 :: s166 :: s167 :: s168 :: s169 :: s170 :: s171 :: s172 :: s173 :: s174 :: s175 :: s176 :: s177 :: s178 :: s179 :: s180 :: s181 :: s182 :: s183 :: s184 :: s185 :: s186 :: s187 :: s188 :: s189 :: s190 :: s191 :: s192 :: s193 :: s194 :: s195 :: s196 :: s197 :: s198 :: s199 :: s200 :: s201 :: s202 :: s203 :: s204 :: s205 :: s206 :: s207 :: s208 :: s209 :: s210 :: s211 :: s212 :: s213 :: s214 :: s215 :: s216 :: s217 :: s218 :: s219 :: s220 :: s221 :: s222 :: s223 :: s224 :: s225 :: s226 :: s227 :: s228 :: s229 :: s230 :: s231 :: s232 :: s233 :: s234 :: s235 :: s236 :: s237 :: s238 :: s239 :: s240 :: s241 :: s242 :: s243 :: s244 :: s245 :: s246 :: s247 :: s248 :: s249 :: s250 :: s251 :: s252 :: s253 :: s254 :: s255 :: s256 :: s257 :: s258 :: s259 :: s260 :: s261 :: s262 :: s263 :: s264 :: s265 :: s266 :: s267 :: s268 :: s269 :: s270 :: s271 :: s272 :: s273 :: s274 :: s275 :: s276 :: s277 :: s278 :: s279 :: s280 :: s281 :: s282 :: s283 :: s284 :: s285 :: s286 :: s287 :: s288 :: s289 :: s290 :: s291 :: s292 :: s293 :: s294 :: s295 :: s296 :: s297 :: s298 :: s299 :: s300 :: s301 :: s302 :: s303 :: s304 :: s305 :: s306 :: s307 :: s308 :: s309 :: s310 :: s311 :: s312 :: s313 :: s314 :: s315 :: s316 :: s317 :: s318 :: s319 :: s320 :: s321 :: s322 :: s323 :: s324 :: s325 :: s326 :: s327 :: s328 :: s329 :: s330 :: s331 :: s332 :: s333 :: s334 :: s335 :: s336 :: s337 :: s338 :: s339 :: s340 :: s341 :: s342 :: s343 :: s344 :: s345 :: s346 :: s347 :: s348 :: s349 :: s350 :: s351 :: s352 :: s353 :: s354 :: s355 :: s356 :: s357 :: s358 :: s359 :: s360 :: s361 :: s362 :: s363 :: s364 :: s365 :: s366 :: s367 :: s368 :: s369 :: s370 :: s371 :: s372 :: s373 :: s374 :: s375 :: s376 :: s377 :: s378 :: s379 :: s380 :: s381 :: s382 :: s383 :: s384 :: s385 :: s386 :: s387 :: s388 :: []), []⟩ w1 := by
  conv => arg 2; whnf
  go_loopw [26] (fun vi wr => ∃ j : Nat, j ≤ nw ∧ vi = .int .i64 (j : Int) ∧ Hid (Kept (fun b => b = wb) w1 wr ∧ Fill wr wb 39 5 nw j (wcells (mkWs n e nw f)))) (fun vi _ => nw - (intOf vi).toNat)
  case atStart => exact ⟨0, Nat.zero_le _, rfl, Kept.refl _ _, HF.out⟩
  case round =>
    obtain ⟨j, hj, rfl, HK⟩ := hrel
    by_cases hlt : j < nw
    · have hltI : (j : Int) < (nw : Int) := by omega
      obtain ⟨b, off, rfl, hbW, ⟨ok1, ok2, ok3, ok4, ok5⟩, c0, c1, c2, c3, c4⟩ := HL.out j hlt
      have hWr : Below W.heap.size W wr := HB.out.1.trans (HK.out.1.below (fun k hk e => by have := HB.out.2; omega) HB.out.1.size)
      have d0 := (hWr.cell (p := ⟨b, off + j * 5, none⟩) hbW).trans c0
      have d1 := (hWr.cell (p := ⟨b, off + j * 5 + 1, none⟩) hbW).trans c1
      have d2 := (hWr.cell (p := ⟨b, off + j * 5 + 2, none⟩) hbW).trans c2
      have d3 := (hWr.cell (p := ⟨b, off + j * 5 + 3, none⟩) hbW).trans c3
      have d4 := (hWr.cell (p := ⟨b, off + j * 5 + 4, none⟩) hbW).trans c4
      have hwbl := HK.out.2.lt
      obtain ⟨⟨u0, h0⟩, g0⟩ := HK.out.2.at (j * 5) (by omega)
      obtain ⟨⟨u1, h1⟩, g1⟩ := HK.out.2.at (j * 5 + 1) (by omega)
      obtain ⟨⟨u2, h2⟩, g2⟩ := HK.out.2.at (j * 5 + 2) (by omega)
      obtain ⟨⟨u3, h3⟩, g3⟩ := HK.out.2.at (j * 5 + 3) (by omega)
      obtain ⟨⟨u4, h4⟩, g4⟩ := HK.out.2.at (j * 5 + 4) (by omega)
      obtain ⟨q0, q1, q2, q3, q4⟩ := wcells_at (mkWs_at n e nw f j hlt)
      have HQ := Hid.mk' (And.intro q0 (And.intro q1 (And.intro q2 (And.intro q3 q4))))
      clear c0 c1 c2 c3 c4 q0 q1 q2 q3 q4
      unfold mkW at HQ
      dsimp only at HQ
      generalize hx0 : ((f j).ep : Int) = x0 at d0 HQ
      generalize hx1 : ((f j).ck : Int) = x1 at d1 HQ
      generalize hx2 : ((f j).key : Int) = x2 at d2 HQ
      generalize hx3 : ((f j).val : Int) = x3 at d3 HQ
      generalize hx4 : ((f j).st : Int) = x4 at d4 HQ
      have r0 : 0 ≤ x0 ∧ x0 < 256 := by omega
      have r1 : 0 ≤ x1 ∧ x1 < 256 := by omega
      have r2 : 0 ≤ x2 ∧ x2 < 256 := by omega
      have r3 : 0 ≤ x3 ∧ x3 < 256 := by omega
      have r4 : 0 ≤ x4 ∧ x4 < 256 := by omega
      clear hx0 hx1 hx2 hx3 hx4 ok1 ok2 ok3 ok4 ok5 hWr
      have m1 : 0 ≤ x0 % e := Int.emod_nonneg _ (by omega)
      have m2 : x0 % e < e := Int.emod_lt_of_pos _ (by omega)
      by_cases hn0 : 0 < n
      · rw [if_pos hn0, if_pos hn0] at HQ
        have m3 : 0 ≤ x1 % (n : Int) := Int.emod_nonneg _ (by omega)
        have m4 : x1 % (n : Int) < (n : Int) := Int.emod_lt_of_pos _ (by omega)
        have hn0I : (0 : Int) < (n : Int) := by omega
        go_wp2
        go_roundw
        case rel => exact ⟨j + 1, by omega, by go_num, Kept.alloc (Kept.alloc (kept5 HK.out.1) _) _, (HK.out.2.step5 _ _ _ _ _ HQ.out.1 HQ.out.2.1 HQ.out.2.2.1 HQ.out.2.2.2.1 HQ.out.2.2.2.2 hlt).kept (Kept.alloc (Kept.alloc (Kept.refl (fun _ => False) _) _) _) (fun e => e)⟩
        case measure => simp [intOf]; omega
      · rw [if_neg hn0, if_neg hn0] at HQ
        have hn0I : ¬ (0 : Int) < (n : Int) := by omega
        go_wp2
        go_roundw
        case rel => exact ⟨j + 1, by omega, by go_num, Kept.alloc (Kept.alloc (kept5 HK.out.1) _) _, (HK.out.2.step5 _ _ _ _ _ HQ.out.1 HQ.out.2.1 HQ.out.2.2.1 HQ.out.2.2.2.1 HQ.out.2.2.2.2 hlt).kept (Kept.alloc (Kept.alloc (Kept.refl (fun _ => False) _) _) _) (fun e => e)⟩
        case measure => simp [intOf]; omega
    · have hltI : ¬ (j : Int) < (nw : Int) := by omega
      have hjn : j = nw := by omega
      subst hjn
      go_wp2
      all_goals
        repeat apply Exists.intro
        exact ⟨HK.out, rfl⟩
end Go.Proofs.YbulkejpeDoor
